/-
  THE CONTRACT OF 'appendLine': onto a slice that the caller owns: the key, a colon and a blank, the value, a newline.
-/
import Derived.Test.YbulkaoqkClone
namespace Go.Proofs.Ybulkaoqk
open Go.RowKit

/-- What 'appendLine' lays behind 'xs'. -/
def lineOf (key : ByteArray) (ys : List Int) : List Int := sb key ++ ([58, 32] ++ (ys ++ [10]))
theorem lineOf_length (key : ByteArray) (ys : List Int) : (lineOf key ys).length = key.size + ys.length + 3 := by
  simp [lineOf, sb_length]; omega

theorem colon_size : ({ data := #[58, 32] } : ByteArray).size = 2 := rfl

theorem owns_line {w : World} {base n m : Nat} {v : Value} {xs ys : List Int} {key : ByteArray} (hm : n + key.size + 2 + m + 1 = n + (key.size + m + 3))
    (h : w.ownsRow base 5 1 v (n + key.size + 2 + m + 1) (bs xs ++ Lib.strCells key ++ Lib.strCells { data := #[58, 32] } ++ bs ys ++ bs [10])) :
    w.ownsRow base 5 1 v (n + (key.size + m + 3)) (bs (xs ++ lineOf key ys)) := by
  have e : bs (xs ++ lineOf key ys) = bs xs ++ Lib.strCells key ++ Lib.strCells { data := #[58, 32] } ++ bs ys ++ bs [10] := by
    have e2 : Lib.strCells { data := #[58, 32] } = bs [58, 32] := by simp [Lib.strCells, bs]
    rw [e2, ← bs_sb]
    simp only [bs_append, lineOf, List.append_assoc]
  rw [e, ← hm]
  exact h

set_option maxHeartbeats 400000 in
theorem line_any (base n : Nat) (v : Value) (xs : List Int) (key : ByteArray) (a : Option Addr) (len cap : Nat) (ys : List Int) (w : World) (hown : w.ownsRow base 5 1 v n (bs xs)) (hkey : key.size ≤ 1024)
    (hr : Rd w base a len ys) (hn : a = none → len = 0 ∧ cap = 0) (hlen : len ≤ 1024) (hn1 : n ≤ 1024) (hbase : base ≤ w.heap.size) :
    Calls Yba.prog 8 #[v, .string key, .slice a len cap] w fun e w' => ∃ v', e = .returned v' ∧ w'.ownsRow base 5 1 v' (n + (key.size + len + 3)) (bs (xs ++ lineOf key ys)) ∧ Below base w w' := by
  obtain ⟨i0, hi, hz0, hz1, hz2⟩ := info_parts Yba.info5
  go_enter Yba.func8, Yba.ntmps8
  go_wp2_with (first
    | (at_builtin; refine Lib.wpList_append_own_string _ rfl (.tmp 7) (.tmp 8) 22 9 rfl base 5 i0 Yba.underlying22 Yba.underlying9 hi hz0 hz1 hz2 v n (bs xs) rfl hown key rfl (by unfold maxLen; omega) (by omega) hbase ?_; intro v1 w1 hown1 hg1 _; have hb1 := (Below.refl base w).grown hg1 hbase (fun k hk => (hown.lt k hk).1); have hs1 := hb1.size)
    | (at_builtin; refine Lib.wpList_append_own_string _ rfl (.tmp 10) (.const (.string { data := #[58, 32] })) 22 9 rfl base 5 i0 Yba.underlying22 Yba.underlying9 hi hz0 hz1 hz2 v1 _ _ rfl hown1 { data := #[58, 32] } rfl (by rw [colon_size]; unfold maxLen; omega) (by rw [colon_size]; omega) (by omega) ?_; intro v2 w2 hown2 hg2 _; have hb2 := hb1.grown hg2 (by omega) (fun k hk => (hown1.lt k hk).1); have hs2 := hb2.size)
    | (at_builtin; refine wpList_append_any rfl (.tmp 12) (.tmp 13) 22 rfl base 5 i0 (.int .u8 0) 1 1 Yba.underlying22 hi hz0 hz1 hz2 rfl (by decide) v2 _ _ rfl hown2 a len cap (bs ys) rfl (by rw [bs_length, hr.1, Nat.mul_one]) hn (hr.below hb2).news (bs_one ys) (by rw [colon_size]; unfold maxLen; omega) (by rw [colon_size]; omega) (by omega) ?_; intro v3 w3 hown3 hg3; have hb3 := hb2.grown hg3 (by omega) (fun k hk => (hown2.lt k hk).1); have hs3 := hb3.size)
    | (at_builtin; refine wpList_append_own _ rfl (.tmp 15) (.tmp 16) 22 rfl base 5 i0 (.int .u8 0) 1 1 Yba.underlying22 hi hz0 hz1 hz2 rfl (by decide) v3 _ _ rfl (hown3.alloc _) ⟨w3.heap.size, 0, none⟩ 1 1 (bs [10]) rfl rfl (one_new _ _ _) (bs_one _) (by rw [colon_size]; unfold maxLen; omega) (by rw [colon_size]; omega) (by simp; omega) ?_; intro v4 w4 hown4 hg4 _))
  go_ret
  refine ⟨_, rfl, owns_line (by omega) hown4, ?_⟩
  exact (hb3.alloc (by omega) _).grown hg4 (by simp; omega) (fun k hk => (hown3.lt k hk).1)

end Go.Proofs.Ybulkaoqk
