/-
  THE LONG WAY OF 'LawS2012APrefix': all three lengths at most 1024.
-/
import Derived.Test.YbulkaoqkExactWalk
namespace Go.Proofs.Ybulkaoqk
open Go.RowKit

/-- A row of more than no byte, taken apart: its head's address, its first part, its rest. -/
theorem owns_parts {w : World} {base n : Nat} {v : Value} {xs ys : List Int} (h : w.ownsRow base 5 1 v n (bs (xs ++ ys))) (hp : 0 < n) :
    ∃ g cap, v = .slice (some ⟨g, 0, none⟩) n cap ∧ n ≤ cap ∧ cap ≤ maxLen ∧ Rd w w.heap.size (some ⟨g, 0, none⟩) xs.length xs ∧ Rd w w.heap.size (some ⟨g, xs.length, none⟩) ys.length ys := by
  obtain ⟨a, cap, rfl, hnc, hcm, hr, _⟩ := Rd.ofOwns h
  obtain ⟨b, off, rfl, hb, hc⟩ := hr.2 hp
  have hl := hr.1
  simp only [List.length_append] at hl
  have ho : off = 0 := by
    rcases h.2 with ⟨hv, _⟩ | ⟨g', cap', cur, hv, _⟩
    · cases hv
    · simp only [Value.slice.injEq, Option.some.injEq, Addr.mk.injEq] at hv
      exact hv.1.2.1
  subst ho
  refine ⟨b, cap, rfl, hnc, hcm, ⟨rfl, fun _ => ⟨b, 0, rfl, hb, fun i hi => ?_⟩⟩, ⟨rfl, fun _ => ⟨b, xs.length, rfl, hb, fun i hi => ?_⟩⟩⟩
  · rw [hc i (by omega)]
    simp [List.getD, List.getElem?_append, hi]
  · have := hc (xs.length + i) (by omega)
    rw [Nat.zero_add] at this
    rw [this]
    simp [List.getD, List.getElem?_append_right]

set_option maxHeartbeats 1000000 in
theorem keeps_in (a0 : Option Addr) (len0 cap0 : Nat) (x0 : List Int) (a1 : ByteArray) (a2 : Option Addr) (len2 cap2 : Nat) (x2 : List Int) (w : World)
    (r0 : Rd w w.heap.size a0 len0 x0) (n0 : a0 = none → len0 = 0 ∧ cap0 = 0) (r2 : Rd w w.heap.size a2 len2 x2) (n2 : a2 = none → len2 = 0 ∧ cap2 = 0) (g0 : len0 ≤ 1024) (g1 : a1.size ≤ 1024) (g2 : len2 ≤ 1024) :
    Calls Yba.prog 4 #[.slice a0 len0 cap0, .string a1, .slice a2 len2 cap2] w fun e w' => e = .returned (.bool true) ∧ Below w.heap.size w w' := by
  go_enter Yba.func4, Yba.ntmps4
  go_wp2_with (go_at_call 7; refine (clone_any a0 len0 cap0 x0 _ r0 n0 g0).mono ?_; rintro e w1 ⟨v1, rfl, hown1, hb1⟩; have hs1 := hb1.size)
  refine (line_any w.heap.size len0 v1 x0 a1 a2 len2 cap2 x2 _ hown1 g1 (r2.below hb1) n2 g2 g0 hs1).mono ?_
  rintro e w2 ⟨v2, rfl, hown2, hb2'⟩
  have hb2 := hb1.trans hb2'
  have hs2 := hb2.size
  clear hb2' hown1 hs1 hb1
  go_wp2_with fail
  refine (line_any w2.heap.size 0 (.slice none 0 0) [] a1 a2 len2 cap2 x2 _ (World.ownsRow_nil _ _ _ _) g1 ((r2.below hb2).mono hs2) n2 g2 (by omega) (Nat.le_refl _)).mono ?_
  rintro e w3 ⟨v3, rfl, hown3, hb3⟩
  rw [Nat.zero_add, List.nil_append] at hown3
  have hs3 := hb3.size
  obtain ⟨ga, ca, rfl, hca, hma, ra, rl⟩ := owns_parts (owns_later hown2 hb3) (by omega)
  obtain ⟨a3, c3, rfl, _, _, r3, _⟩ := Rd.ofOwns hown3
  have q0 : Rd w3 w2.heap.size a0 len0 x0 := ((r0.below hb2).mono hs2).below hb3
  have HL0 : Hid (x0.length = len0) := q0.1
  rw [HL0.out] at ra rl
  have HLL : Hid ((lineOf a1 x2).length = a1.size + len2 + 3) := r3.1
  rw [HLL.out] at rl
  clear hown2 hown3 r0 r2 n0 n2
  have hc1 : ¬ ca = len0 := by omega
  go_wp2_with fail
  refine (eq_yes len0 _ _ _ _ x0 _ (by omega) ra q0).mono ?_
  rintro e w4 ⟨rfl, nq, rfl⟩
  go_wp2_with fail
  refine (eq_yes (a1.size + len2 + 3) _ _ _ _ (lineOf a1 x2) _ (by omega) (show Rd (w3.drewN nq) _ _ _ _ from rl) (show Rd (w3.drewN nq) _ _ _ _ from r3)).mono ?_
  rintro e w5 ⟨rfl, nr, rfl⟩
  go_wp2
  go_ret
  exact ⟨rfl, below_drewN (hb2.trans (hb3.mono hs2)) (nq + nr)⟩

end Go.Proofs.Ybulkaoqk
