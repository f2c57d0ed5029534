/-
  THE CONTRACT OF 'zzs2019beq' AT TWO SLICES THAT READ AS THE SAME BYTES: true; nothing is written (each round's test draws its order).
-/
import Derived.Test.YbulkaoueDoorCopy
import Derived.Deep.QuietTactic
import Derived.BigQuiet
namespace Go.Proofs.YbulkaoueDoor
open Go.RowKit

set_option maxHeartbeats 400000 in
theorem eq_empty (a1 a2 : Option Addr) (c1 c2 : Nat) (w : World) :
    Calls Ybad.prog 8 #[.slice a1 0 c1, .slice a2 0 c2] w fun e w' => e = .returned (.bool true) ∧ ∃ q, w' = w.drewN q := by
  go_enter Ybad.func8, Ybad.ntmps8
  go_wp2
  refine wp_loop_rounds 1 ?_
  rw [rounds_succ]
  go_wp2
  go_ret
  exact ⟨rfl, 0, rfl⟩

set_option maxHeartbeats 400000 in
theorem eq_full (b1 o1 b2 o2 c1 c2 n : Nat) (xs : List Int) (w : World) (hn : n ≤ 100000) (hx : xs.length = n)
    (h1 : ∀ i, i < n → w.cell? ⟨b1, o1 + i, none⟩ = some (.int .u8 (xs.getD i 0))) (h2 : ∀ i, i < n → w.cell? ⟨b2, o2 + i, none⟩ = some (.int .u8 (xs.getD i 0))) :
    Calls Ybad.prog 8 #[.slice (some ⟨b1, o1, none⟩) n c1, .slice (some ⟨b2, o2, none⟩) n c2] w fun e w' => e = .returned (.bool true) ∧ ∃ q, w' = w.drewN q := by
  have HX : Hid (xs.length = n) := hx
  clear hx
  go_enter Ybad.func8, Ybad.ntmps8
  go_wp2
  go_loopw [5] (fun i wr => ∃ k q : Nat, k ≤ n ∧ i = .int .i64 k ∧ wr = w.drewN q) (fun i _ => n - (intOf i).toNat)
  case atStart => exact ⟨0, 0, Nat.zero_le _, rfl, rfl⟩
  case round =>
    obtain ⟨k, q, hk, rfl, rfl⟩ := hrel
    by_cases hlt : k < n
    · have g1 := h1 k hlt
      have g2 := h2 k hlt
      clear h1 h2
      have hlt' : (k : Int) < (n : Int) := by omega
      go_wp2
      go_quiet (fail)
      go_wp2
      go_roundw
      case rel => exact ⟨k + 1, _, by omega, by go_num, rfl⟩
      case measure => simp [intOf]; omega
    · clear h1 h2
      go_wp2
      go_ret
      exact ⟨rfl, q, rfl⟩

theorem eq_yes {B1 B2 : Nat} (n : Nat) (a1 a2 : Option Addr) (c1 c2 : Nat) (xs : List Int) (w : World) (hn : n ≤ 100000) (h1 : Rd w B1 a1 n xs) (h2 : Rd w B2 a2 n xs) :
    Calls Ybad.prog 8 #[.slice a1 n c1, .slice a2 n c2] w fun e w' => e = .returned (.bool true) ∧ ∃ q, w' = w.drewN q := by
  by_cases h0 : n = 0
  · subst h0
    exact eq_empty a1 a2 c1 c2 w
  · obtain ⟨b1, o1, rfl, _, g1⟩ := h1.2 (by omega)
    obtain ⟨b2, o2, rfl, _, g2⟩ := h2.2 (by omega)
    exact eq_full b1 o1 b2 o2 c1 c2 n xs w hn h1.1 g1 g2

end Go.Proofs.YbulkaoueDoor
