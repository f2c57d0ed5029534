/-
  THE LONG WAY OF 'LawS2012AExact': all three lengths at most 1024.
-/
import Derived.Test.YbulkaoqkLine
import Derived.Test.YbulkaoqkEq
namespace Go.Proofs.Ybulkaoqk
open Go.RowKit

theorem sb_at (s : ByteArray) (k : Nat) (h : k < s.size) : (sb s).getD k 0 = (s[k].toNat : Int) := by
  have h' : k < s.data.size := h
  simp [sb, List.getD, Array.getElem?_eq_getElem h']
  rfl

/-- One byte more: what the round's append leaves, as the relation says it. -/
theorem own_step {base n k : Nat} {w' : World} {v' : Value} {xs ys : List Int} (hk : k < ys.length) (h : w'.ownsRow base 5 1 v' (n + k + 1) (bs (xs ++ ys.take k) ++ bs [ys.getD k 0])) :
    w'.ownsRow base 5 1 v' (n + (k + 1)) (bs (xs ++ ys.take (k + 1))) := by
  rw [take_snoc ys k hk, ← List.append_assoc, bs_append]
  exact h

theorem own_below {base n : Nat} {w0 w w' : World} {v : Value} {xs : List Int} {o : Obj} (h : w.ownsRow base 5 1 v n (bs xs)) (hb : Below base w0 w) (hbase : base ≤ w.heap.size) (hg : (w.alloc o).grownBy w' v.ownBlock) : Below base w0 w' :=
  (hb.alloc hbase o).grown hg (by simp; omega) (fun k hk => (h.lt k hk).1)

theorem own_two {base n : Nat} {w : World} {v : Value} {xs ys : List Int} {x y : Int} (h : w.ownsRow base 5 1 v (n + 1 + 1) (bs (xs ++ ys) ++ bs [x] ++ bs [y])) : w.ownsRow base 5 1 v (n + 2) (bs (xs ++ ys ++ [x, y])) := by
  have e : bs (xs ++ ys ++ [x, y]) = bs (xs ++ ys) ++ bs [x] ++ bs [y] := by simp [bs]
  rw [e]
  exact h

theorem own_end {base n k m : Nat} {w : World} {v : Value} {xs ys : List Int} {key : ByteArray} (h : w.ownsRow base 5 1 v (n + k + 2 + m + 1) (bs (xs ++ sb key ++ [58, 32] ++ ys) ++ bs [10])) : w.ownsRow base 5 1 v (n + (k + m + 3)) (bs (xs ++ lineOf key ys)) := by
  have e : bs (xs ++ lineOf key ys) = bs (xs ++ sb key ++ [58, 32] ++ ys) ++ bs [10] := by simp [bs, lineOf]
  rw [e, show n + (k + m + 3) = n + k + 2 + m + 1 from by omega]
  exact h

theorem owns_later {base e size n : Nat} {w w' : World} {v : Value} {xs : List Value} (h : w.ownsRow base e size v n xs) (hb : Below w.heap.size w w') : w'.ownsRow base e size v n xs := by
  refine ⟨h.1, ?_⟩
  rcases h.2 with hn | ⟨g, cap, cur, rfl, hbg, hg, r⟩
  · exact .inl hn
  · exact .inr ⟨g, cap, cur, rfl, hbg, by rw [hb.block g (Array.getElem?_eq_some_iff.1 hg).1]; exact hg, r⟩

theorem eq_owned {B1 B2 : Nat} (v1 v2 : Value) (n : Nat) (xs : List Int) (w : World) (hn : n ≤ 100000) (h1 : w.ownsRow B1 5 1 v1 n (bs xs)) (h2 : w.ownsRow B2 5 1 v2 n (bs xs)) :
    Calls Yba.prog 9 #[v1, v2] w fun e w' => e = .returned (.bool true) ∧ ∃ q, w' = w.drewN q := by
  obtain ⟨a1, c1, rfl, _, _, r1, _⟩ := Rd.ofOwns h1
  obtain ⟨a2, c2, rfl, _, _, r2, _⟩ := Rd.ofOwns h2
  exact eq_yes n a1 a2 c1 c2 xs w hn r1 r2

/-! ### STEP 1: THE WALK -/
set_option maxHeartbeats 1000000 in
theorem walk_in (a0 : Option Addr) (len0 cap0 : Nat) (x0 : List Int) (a1 : ByteArray) (a2 : Option Addr) (len2 cap2 : Nat) (x2 : List Int) (w : World)
    (r0 : Rd w w.heap.size a0 len0 x0) (n0 : a0 = none → len0 = 0 ∧ cap0 = 0) (r2 : Rd w w.heap.size a2 len2 x2) (n2 : a2 = none → len2 = 0 ∧ cap2 = 0) (g0 : len0 ≤ 1024) (g1 : a1.size ≤ 1024) (g2 : len2 ≤ 1024) :
    Calls Yba.prog 3 #[.slice a0 len0 cap0, .string a1, .slice a2 len2 cap2] w fun e w' => e = .returned (.bool true) ∧ Below w.heap.size w w' := by
  obtain ⟨i0, hi, hz0, hz1, hz2⟩ := info_parts Yba.info5
  go_enter Yba.func3, Yba.ntmps3
  go_wp2_with (first
    | (go_at_call 7; refine (clone_any a0 len0 cap0 x0 _ r0 n0 g0).mono ?_; rintro e w1 ⟨v1, rfl, hown1, hb1⟩; have hs1 := hb1.size)
    | (go_at_call 8; refine (line_any w.heap.size len0 v1 x0 a1 a2 len2 cap2 x2 _ hown1 g1 (r2.below hb1) n2 g2 g0 hs1).mono ?_; rintro e w2 ⟨v2, rfl, hown2, hb2'⟩; have hb2 := hb1.trans hb2'; clear hb2'; have hs2 := hb2.size)
    | (at_make; refine wpList_make_own _ rfl _ (.tmp 40) 22 rfl w2.heap.size 5 i0 (.int .u8 0) 1 Yba.underlying22 hi hz0 hz1 .i64 .i64 _ (len0 + a1.size + len2 + 3) rfl rfl (by omega) (by rw [hz2]; omega) (by unfold maxLen; omega) (Nat.le_refl _) ?_; intro w3 hown3 hg3; have hb3 := (Below.refl w2.heap.size w2).grown hg3 (Nat.le_refl _) (fun k hk => by cases hk); clear hg3))
  have q0 : Rd w2 w2.heap.size a0 len0 x0 := (r0.below hb2).mono hs2
  have q2 : Rd w2 w2.heap.size a2 len2 x2 := (r2.below hb2).mono hs2
  clear r0 r2 n0 n2 hown1 hb1 hs1
  have HL0 : Hid (x0.length = len0) := q0.1
  have HL2 : Hid (x2.length = len2) := q2.1
  go_loopw [9, 10] (fun v i wr => ∃ k : Nat, k ≤ len0 ∧ i = .int .i64 k ∧ wr.ownsRow w2.heap.size 5 1 v k (bs (x0.take k)) ∧ Below w2.heap.size w2 wr) (fun _ i _ => len0 - (intOf i).toNat)
  case atStart => exact ⟨0, Nat.zero_le _, rfl, hown3, hb3⟩
  case round =>
    obtain ⟨k, hk, rfl, hown, hb⟩ := hrel
    have hsz := hb.size
    clear hown3 hb3
    by_cases hlt : k < len0
    · obtain ⟨b, off, rfl, hbB, hc⟩ := q0.2 (by omega)
      have hck : wr.cell? ⟨b, off + k, none⟩ = some (.int .u8 (x0.getD k 0)) := (hb.cell (by exact hbB)).trans (hc k hlt)
      clear hc q0 q2
      go_wp2_with (at_builtin; refine wpList_append_own _ rfl (.tmp 48) (.tmp 53) 22 rfl w2.heap.size 5 i0 (.int .u8 0) 1 1 Yba.underlying22 hi hz0 hz1 hz2 rfl (by decide) _ k _ rfl (hown.alloc _) ⟨wr.heap.size, 0, none⟩ 1 1 (bs [x0.getD k 0]) rfl rfl (one_new _ _ _) (bs_one _) (by unfold maxLen; omega) (by omega) (by simp; omega) ?_; intro v4 w4 hown4 hg4 _)
      go_roundw
      case rel => exact ⟨k + 1, by omega, by go_num, by simpa using own_step (n := 0) (xs := []) (by have := HL0.out; omega) (by simpa using hown4), own_below hown hb hsz hg4⟩
      case measure => simp [intOf]; omega
    · have hown' := hown
      rw [show k = len0 from by omega, List.take_of_length_le (by have := HL0.out; omega)] at hown'
      clear hown
      go_wp2
      obtain ⟨wa, rfl⟩ : ∃ wa : World, wa = wr := ⟨_, rfl⟩
      go_loopw [9, 11] (fun v i wr => ∃ k : Nat, k ≤ a1.size ∧ i = .int .i64 k ∧ wr.ownsRow w2.heap.size 5 1 v (len0 + k) (bs (x0 ++ (sb a1).take k)) ∧ Below w2.heap.size w2 wr) (fun _ i _ => a1.size - (intOf i).toNat)
      case atStart => exact ⟨0, Nat.zero_le _, rfl, by simpa using hown', hb⟩
      case round =>
        obtain ⟨k, hk, rfl, hown, hb⟩ := hrel
        have hsz := hb.size
        clear hown' 
        by_cases hlt : k < a1.size
        · have HS : Hid ((sb a1).getD k 0 = (a1[k].toNat : Int)) := sb_at a1 k hlt
          go_wp2_with (at_builtin; refine wpList_append_own _ rfl (.tmp 61) (.tmp 65) 22 rfl w2.heap.size 5 i0 (.int .u8 0) 1 1 Yba.underlying22 hi hz0 hz1 hz2 rfl (by decide) _ (len0 + k) _ rfl (hown.alloc _) ⟨wr.heap.size, 0, none⟩ 1 1 (bs [(a1[k].toNat : Int)]) rfl rfl (one_new _ _ _) (bs_one _) (by unfold maxLen; omega) (by omega) (by simp; omega) ?_; intro v4 w4 hown4 hg4 _)
          go_roundw
          case rel =>
            rw [← HS.out] at hown4
            exact ⟨k + 1, by omega, by go_num, own_step (by rw [sb_length]; exact hlt) hown4, own_below hown hb hsz hg4⟩
          case measure => simp [intOf]; omega
        · have hown' := hown
          rw [show k = a1.size from by omega, List.take_of_length_le (by rw [sb_length]; omega)] at hown'
          clear hown
          go_wp2_with (first
            | (at_builtin; refine wpList_append_own _ rfl (.tmp 67) (.tmp 68) 22 rfl w2.heap.size 5 i0 (.int .u8 0) 1 1 Yba.underlying22 hi hz0 hz1 hz2 rfl (by decide) _ (len0 + a1.size) _ rfl (hown'.alloc _) ⟨wr.heap.size, 0, none⟩ 1 1 (bs [58]) rfl rfl (one_new _ _ _) (bs_one _) (by unfold maxLen; omega) (by omega) (by simp; omega) ?_; intro v4 w4 hown4 hg4 _; have hb4 := own_below hown' hb hsz hg4; have hs4 := hb4.size)
            | (at_builtin; refine wpList_append_own _ rfl (.tmp 70) (.tmp 71) 22 rfl w2.heap.size 5 i0 (.int .u8 0) 1 1 Yba.underlying22 hi hz0 hz1 hz2 rfl (by decide) _ (len0 + a1.size + 1) _ rfl (hown4.alloc _) ⟨w4.heap.size, 0, none⟩ 1 1 (bs [32]) rfl rfl (one_new _ _ _) (bs_one _) (by unfold maxLen; omega) (by omega) (by simp; omega) ?_; intro v5 w5 hown5 hg5 _; rw [← bs_append] at hown4; have hb5 := own_below hown4 hb4 hs4 hg5; have hs5 := hb5.size))
          have hown6 := own_two hown5
          clear hown5 hown4 hg4 hg5 hb4 hs4 hb
          go_loopw [9, 12] (fun v i wr => ∃ k : Nat, k ≤ len2 ∧ i = .int .i64 k ∧ wr.ownsRow w2.heap.size 5 1 v (len0 + a1.size + 2 + k) (bs (x0 ++ sb a1 ++ [58, 32] ++ x2.take k)) ∧ Below w2.heap.size w2 wr) (fun _ i _ => len2 - (intOf i).toNat)
          case atStart => exact ⟨0, Nat.zero_le _, rfl, by simpa using hown6, hb5⟩
          case round =>
            obtain ⟨k, hk, rfl, hown, hb⟩ := hrel
            have hsz := hb.size
            clear hown6 hb5 hs5
            by_cases hlt : k < len2
            · obtain ⟨b, off, rfl, hbB, hc⟩ := q2.2 (by omega)
              have hck : wr.cell? ⟨b, off + k, none⟩ = some (.int .u8 (x2.getD k 0)) := (hb.cell (by exact hbB)).trans (hc k hlt)
              clear hc q0 q2
              go_wp2_with (at_builtin; refine wpList_append_own _ rfl (.tmp 79) (.tmp 84) 22 rfl w2.heap.size 5 i0 (.int .u8 0) 1 1 Yba.underlying22 hi hz0 hz1 hz2 rfl (by decide) _ (len0 + a1.size + 2 + k) _ rfl (hown.alloc _) ⟨wr.heap.size, 0, none⟩ 1 1 (bs [x2.getD k 0]) rfl rfl (one_new _ _ _) (bs_one _) (by unfold maxLen; omega) (by omega) (by simp; omega) ?_; intro v4 w4 hown4 hg4 _)
              go_roundw
              case rel => exact ⟨k + 1, by omega, by go_num, own_step (by have := HL2.out; omega) hown4, own_below hown hb hsz hg4⟩
              case measure => simp [intOf]; omega
            · have hown' := hown
              rw [show k = len2 from by omega, List.take_of_length_le (by have := HL2.out; omega)] at hown'
              clear hown q0 q2
              go_wp2_with (first
                | (at_builtin; refine wpList_append_own _ rfl (.tmp 86) (.tmp 87) 22 rfl w2.heap.size 5 i0 (.int .u8 0) 1 1 Yba.underlying22 hi hz0 hz1 hz2 rfl (by decide) _ (len0 + a1.size + 2 + len2) _ rfl (hown'.alloc _) ⟨wr.heap.size, 0, none⟩ 1 1 (bs [10]) rfl rfl (one_new _ _ _) (bs_one _) (by unfold maxLen; omega) (by omega) (by simp; omega) ?_; intro v4 w4 hown4 hg4 _; have hb4 := own_below hown' hb hsz hg4)
                | (go_at_call 9; refine (eq_owned v2 v4 (len0 + (a1.size + len2 + 3)) (x0 ++ lineOf a1 x2) _ (by omega) (owns_later hown2 hb4) (own_end hown4)).mono ?_; rintro e w5 ⟨rfl, nq, rfl⟩))
              go_ret
              exact ⟨rfl, below_drewN (hb2.trans (hb4.mono hs2)) nq⟩

end Go.Proofs.Ybulkaoqk
