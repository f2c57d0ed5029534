/-
  THE LONG WAY OF 'LawS2019BModel': both lengths at most 4096.
-/
import Derived.Test.YbulkaoueDoorEscape
import Derived.Test.YbulkaoueDoorEq
namespace Go.Proofs.YbulkaoueDoor
open Go.RowKit

theorem owns_later {base e size n : Nat} {w w' : World} {v : Value} {xs : List Value} (h : w.ownsRow base e size v n xs) (hb : Below w.heap.size w w') : w'.ownsRow base e size v n xs := by
  refine ⟨h.1, ?_⟩
  rcases h.2 with hn | ⟨g, cap, cur, rfl, hbg, hg, r⟩
  · exact .inl hn
  · exact .inr ⟨g, cap, cur, rfl, hbg, by rw [hb.block g (Array.getElem?_eq_some_iff.1 hg).1]; exact hg, r⟩

theorem eq_owned {B1 B2 : Nat} (v1 v2 : Value) (n : Nat) (xs : List Int) (w : World) (hn : n ≤ 100000) (h1 : w.ownsRow B1 5 1 v1 n (bs xs)) (h2 : w.ownsRow B2 5 1 v2 n (bs xs)) :
    Calls Ybad.prog 8 #[v1, v2] w fun e w' => e = .returned (.bool true) ∧ ∃ q, w' = w.drewN q := by
  obtain ⟨a1, c1, rfl, _, _, r1, _⟩ := Rd.ofOwns h1
  obtain ⟨a2, c2, rfl, _, _, r2, _⟩ := Rd.ofOwns h2
  exact eq_yes n a1 a2 c1 c2 xs w hn r1 r2

/-- One byte more. -/
theorem want_step {w : World} {base n N m : Nat} {v : Value} {xs ys zs full : List Int} {L : List Value} (hN : N = n + ys.length) (hL : L = bs zs) (hm : zs.length = m) (hf : full = ys ++ zs) (h : w.ownsRow base 5 1 v (N + m) (bs (xs ++ ys) ++ L)) :
    w.ownsRow base 5 1 v (n + full.length) (bs (xs ++ full)) := end_own hL hm hN hf h

theorem esc_take_succ (s : ByteArray) (k : Nat) (hlt : k < s.size) : esc ((sb s).take (k + 1)) = esc ((sb s).take k) ++ escOf (s[k].toNat : Int) := by
  rw [sb_take_succ s k hlt, esc_append, esc_one]

theorem besc_at (c : Int) (w : World) : Calls Ybad.prog 7 #[.int .u8 c] w fun e w' => e = .returned (.string (ent c)) ∧ w = w' :=
  (besc_any c w).mono fun _ _ h => ⟨h.1, h.2.symm⟩

set_option maxHeartbeats 1000000 in
theorem model_in (a0 : Option Addr) (len0 cap0 : Nat) (x0 : List Int) (s : ByteArray) (w : World)
    (hT : Tab w) (hw0 : 0 < w.heap.size) (r0 : Rd w w.heap.size a0 len0 x0) (n0 : a0 = none → len0 = 0 ∧ cap0 = 0) (g0 : len0 ≤ 4096) (g1 : s.size ≤ 4096) :
    Calls Ybad.prog 3 #[.slice a0 len0 cap0, .string s] w fun e w' => e = .returned (.bool true) ∧ Below w.heap.size w w' := by
  obtain ⟨i0, hi, hz0, hz1, hz2⟩ := info_parts Ybad.info5
  have hel := esc_length (sb s)
  rw [sb_length] at hel
  go_enter Ybad.func3, Ybad.ntmps3
  go_wp2_with (first
    | (go_at_call 5; refine (copy_any a0 len0 cap0 x0 _ r0 g0).mono ?_; rintro e w1 ⟨v1, rfl, hown1, hb1⟩; have hs1 := hb1.size)
    | (go_at_call 6; refine (escape_any w.heap.size len0 v1 x0 s _ (hT.below hb1 hw0) hown1 g0 g1 hw0 hs1).mono ?_; rintro e w2 ⟨v2, rfl, hown2, hb2'⟩; have hb2 := hb1.trans hb2'; clear hb2'; have hs2 := hb2.size)
    | (at_make; refine wpList_make_own _ rfl _ (.tmp 28) 22 rfl w2.heap.size 5 i0 (.int .u8 0) 1 Ybad.underlying22 hi hz0 hz1 .i64 .i64 _ (len0 + 6 * s.size) rfl rfl (by omega) (by rw [hz2]; omega) (by unfold maxLen; omega) (Nat.le_refl _) ?_; intro w3 hown3 hg3; have hb3 := (Below.refl w2.heap.size w2).grown hg3 (Nat.le_refl _) (fun k hk => (by cases hk)); have hs3 := hb3.size; clear hg3)
    | (at_builtin; refine wpList_append_any rfl (.tmp 30) (.tmp 31) 22 rfl w2.heap.size 5 i0 (.int .u8 0) 1 1 Ybad.underlying22 hi hz0 hz1 hz2 rfl (by decide) _ _ _ rfl hown3 a0 len0 cap0 (bs x0) rfl (by rw [bs_length, r0.1, Nat.mul_one]) n0 (((r0.below hb2).mono hs2).below hb3).news (bs_one x0) (by unfold maxLen; omega) (by omega) (by omega) ?_; intro v4 w4 hown4 hg4; have hb4 := hb3.grown hg4 (by omega) (fun k hk => (hown3.lt k hk).1)))
  rw [Nat.zero_add, List.nil_append] at hown4
  clear hown3 hown1 hb1 hs1 hb3 hs3 hg4 r0 n0 hT
  go_loopw [7, 8] (fun v i wr => ∃ k N : Nat, k ≤ s.size ∧ i = .int .i64 k ∧ N ≤ len0 + 6 * k ∧ Hid (N = len0 + (esc ((sb s).take k)).length) ∧ wr.ownsRow w2.heap.size 5 1 v N (bs (x0 ++ esc ((sb s).take k))) ∧ Below w2.heap.size w2 wr) (fun _ i _ => s.size - (intOf i).toNat)
  case atStart => exact ⟨0, len0, Nat.zero_le _, rfl, by omega, by simp [Hid, esc], by simpa [esc] using hown4, hb4⟩
  case round =>
    obtain ⟨k, N, hk, rfl, hN, HN, hown, hbel⟩ := hrel
    have hsz := hbel.size
    clear hown4 hb4
    by_cases hlt : k < s.size
    · have HS : Hid (esc ((sb s).take (k + 1)) = esc ((sb s).take k) ++ escOf (s[k].toNat : Int)) := esc_take_succ s k hlt
      have hl3 := esc_length ((sb s).take (k + 1))
      rw [List.length_take, sb_length] at hl3
      have hes := ent_size (s[k].toNat : Int)
      by_cases hE : (ent (s[k].toNat : Int)).toList.isEmpty = true
      · go_wp2_with (first
          | (go_at_call 7; refine (besc_at _ _).mono ?_; rintro e w5 ⟨rfl, rfl⟩)
          | (at_builtin; refine wpList_append_own _ rfl (.tmp 45) (.tmp 49) 22 rfl w2.heap.size 5 i0 (.int .u8 0) 1 1 Ybad.underlying22 hi hz0 hz1 hz2 rfl (by decide) _ N _ rfl (hown.alloc _) ⟨wr.heap.size, 0, none⟩ 1 1 (bs [(s[k].toNat : Int)]) rfl rfl (one_new _ _ _) (bs_one _) (by unfold maxLen; omega) (by omega) (by simp; omega) ?_; intro v5 w5 hown5 hg5 _))
        have hfull := HS.out
        rw [escOf, if_pos ((empty_iff _).1 hE)] at hfull
        have hown6 := want_step HN.out rfl rfl hfull hown5
        have hb5 : Below w2.heap.size w2 w5 := (hbel.alloc (by omega) _).grown hg5 (by simp; omega) (fun k hk => (hown.lt k hk).1)
        clear hfull hown5
        go_roundw
        case rel => exact ⟨k + 1, _, by omega, by go_num, by omega, rfl, hown6, hb5⟩
        case measure => simp [intOf]; omega
      · have hE' : (ent (s[k].toNat : Int)).toList.isEmpty = false := by simpa using hE
        clear hE
        go_wp2_with (first
          | (go_at_call 7; refine (besc_at _ _).mono ?_; rintro e w5 ⟨rfl, rfl⟩)
          | (at_builtin; refine Lib.wpList_append_own_string _ rfl (.tmp 51) (.tmp 52) 22 9 rfl w2.heap.size 5 i0 Ybad.underlying22 Ybad.underlying9 hi hz0 hz1 hz2 _ N _ rfl hown (ent (s[k].toNat : Int)) rfl (by unfold maxLen; omega) (by omega) (by omega) ?_; intro v5 w5 hown5 hg5 _))
        have hfull := HS.out
        rw [escOf, if_neg (by intro e; rw [(empty_iff _).2 e] at hE'; cases hE')] at hfull
        have hown6 := want_step HN.out (bs_sb _).symm (sb_length _) hfull hown5
        have hb5 : Below w2.heap.size w2 w5 := hbel.grown hg5 (by omega) (fun k hk => (hown.lt k hk).1)
        clear hfull hown5
        go_roundw
        case rel => exact ⟨k + 1, _, by omega, by go_num, by omega, rfl, hown6, hb5⟩
        case measure => simp [intOf]; omega
    · have hfull : (sb s).take k = sb s := List.take_of_length_le (by rw [sb_length]; omega)
      have hN' := HN.out
      rw [hfull] at hown hN'
      subst hN'
      clear hfull HN
      go_wp2_with (go_at_call 8; refine (eq_owned v2 _ (len0 + (esc (sb s)).length) (x0 ++ esc (sb s)) _ (by omega) (owns_later hown2 hbel) hown).mono ?_; rintro e w5 ⟨rfl, nq, rfl⟩)
      go_ret
      exact ⟨rfl, below_drewN (hb2.trans (hbel.mono hs2)) nq⟩

end Go.Proofs.YbulkaoueDoor
