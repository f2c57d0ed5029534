/-
  THE CONTRACT OF 'appendEscapedHTML' onto a slice that the caller owns, where the table of entities reads as the program's text lays it.
-/
import Derived.Test.YbulkaoueDoorEsc
namespace Go.Proofs.YbulkaoueDoor
open Go.RowKit

/-- The table of entities in block 0. -/
def Tab (w : World) : Prop := ∀ c : Nat, c < 256 → w.cell? ⟨0, c, none⟩ = some (.string (ent c))
theorem Tab.below {w w' : World} {B : Nat} (h : Tab w) (hb : Below B w w') (hB : 0 < B) : Tab w' := fun c hc => (hb.cell (p := ⟨0, c, none⟩) hB).trans (h c hc)

/-- 's[st:k]' as bytes. -/
theorem cells_cut (s : ByteArray) (st k : Nat) : Lib.strCells (s.extract st k) = bs (((sb s).take k).drop st) := by
  rw [← bs_sb]
  congr 1
  rw [List.drop_take]
  simp [sb, ByteArray.data_extract, List.map_drop, List.map_take]

theorem sb_take_succ (s : ByteArray) (k : Nat) (h : k < s.size) : (sb s).take (k + 1) = (sb s).take k ++ [(s[k].toNat : Int)] := by
  rw [take_snoc (sb s) k (by rw [sb_length]; exact h)]
  have h' : k < s.data.size := h
  have e : (sb s).getD k 0 = (s[k].toNat : Int) := by
    simp [sb, List.getD, Array.getElem?_eq_getElem h']
    rfl
  rw [e]

theorem empty_iff (E : ByteArray) : E.toList.isEmpty = true ↔ E.size = 0 := by
  rw [ByteArray.toList_eq, List.isEmpty_iff_length_eq_zero, Array.length_toList]
  exact Iff.rfl

/-- A byte without an entity: it joins what waits. -/
theorem esc_skip (s : ByteArray) (k st : Nat) (hlt : k < s.size) (hst : st ≤ k) (he : (ent (s[k].toNat : Int)).size = 0) (h : esc ((sb s).take k) = esc ((sb s).take st) ++ ((sb s).take k).drop st) :
    esc ((sb s).take (k + 1)) = esc ((sb s).take st) ++ ((sb s).take (k + 1)).drop st := by
  rw [sb_take_succ s k hlt, esc_append, h, esc_one, escOf, if_pos he, List.drop_append_of_le_length (by rw [List.length_take, sb_length]; omega), List.append_assoc]

/-- A byte with an entity: what waits goes over, then the entity. -/
theorem esc_hit (s : ByteArray) (k st : Nat) (hlt : k < s.size) (he : ¬ (ent (s[k].toNat : Int)).size = 0) (h : esc ((sb s).take k) = esc ((sb s).take st) ++ ((sb s).take k).drop st) :
    esc ((sb s).take (k + 1)) = esc ((sb s).take st) ++ ((sb s).take k).drop st ++ sb (ent (s[k].toNat : Int)) := by
  rw [sb_take_succ s k hlt, esc_append, h, esc_one, escOf, if_neg he]

theorem hit_own {w : World} {base n N m e : Nat} {v : Value} {xs ys zs : List Int} {E : ByteArray} {L : List Value} (hL : L = bs zs) (hz : zs.length = m) (hN : N = n + ys.length) (he : E.size = e) {full : List Int} (hf : full = ys ++ zs ++ sb E)
    (h : w.ownsRow base 5 1 v (N + m + e) (bs (xs ++ ys) ++ L ++ Lib.strCells E)) : w.ownsRow base 5 1 v (n + full.length) (bs (xs ++ full)) := by
  subst hL hz hN he hf
  rw [← bs_sb] at h
  have e1 : bs (xs ++ (ys ++ zs ++ sb E)) = bs (xs ++ ys) ++ bs zs ++ bs (sb E) := by simp [bs]
  have e2 : n + (ys ++ zs ++ sb E).length = n + ys.length + zs.length + E.size := by simp [sb_length]; omega
  rw [e1, e2]
  exact h
theorem end_own {w : World} {base n N m : Nat} {v : Value} {xs ys zs : List Int} {L : List Value} (hL : L = bs zs) (hz : zs.length = m) (hN : N = n + ys.length) {full : List Int} (hf : full = ys ++ zs)
    (h : w.ownsRow base 5 1 v (N + m) (bs (xs ++ ys) ++ L)) : w.ownsRow base 5 1 v (n + full.length) (bs (xs ++ full)) := by
  subst hL hz hN hf
  have e1 : bs (xs ++ (ys ++ zs)) = bs (xs ++ ys) ++ bs zs := by simp [bs]
  have e2 : n + (ys ++ zs).length = n + ys.length + zs.length := by simp; omega
  rw [e1, e2]
  exact h
theorem cut_size (s : ByteArray) (st k : Nat) (h : k ≤ s.size) (hst : st ≤ k) : (s.extract st k).size = k - st := by
  simp; omega
theorem cut_length (s : ByteArray) (st k : Nat) (h : k ≤ s.size) : (((sb s).take k).drop st).length = k - st := by
  rw [List.length_drop, List.length_take, sb_length]; omega

set_option maxHeartbeats 1000000 in
theorem escape_any (base n : Nat) (v : Value) (xs : List Int) (s : ByteArray) (w : World) (hT : Tab w) (hown : w.ownsRow base 5 1 v n (bs xs)) (hn : n ≤ 4096) (hs : s.size ≤ 4096) (h0 : 0 < base) (hbase : base ≤ w.heap.size) :
    Calls Ybad.prog 6 #[v, .string s] w fun e w' => ∃ v', e = .returned v' ∧ w'.ownsRow base 5 1 v' (n + (esc (sb s)).length) (bs (xs ++ esc (sb s))) ∧ Below base w w' := by
  obtain ⟨i0, hi, hz0, hz1, hz2⟩ := info_parts Ybad.info5
  go_enter Ybad.func6, Ybad.ntmps6
  go_wp2
  go_loopw [0, 5, 6] (fun u b i wr => ∃ k st N : Nat, k ≤ s.size ∧ st ≤ k ∧ i = .int .i64 k ∧ b = .int .i64 st ∧ N ≤ n + 6 * st ∧ Hid (N = n + (esc ((sb s).take st)).length) ∧ wr.ownsRow base 5 1 u N (bs (xs ++ esc ((sb s).take st))) ∧
      Hid (esc ((sb s).take k) = esc ((sb s).take st) ++ ((sb s).take k).drop st) ∧ Below base w wr) (fun _ _ i _ => s.size - (intOf i).toNat)
  case atStart => exact ⟨0, 0, n, Nat.zero_le _, Nat.zero_le _, rfl, rfl, by omega, by simp [Hid, esc], by simpa [esc] using hown, by simp [Hid, esc], Below.refl _ _⟩
  case round =>
    obtain ⟨k, st, N, hk, hst, rfl, rfl, hN, HN, hownr, HE, hbel⟩ := hrel
    have hsz := hbel.size
    clear hown
    by_cases hlt : k < s.size
    · have hc := (hT.below hbel h0) s[k].toNat s[k].toNat_lt
      have hcb : (s[k].toNat : Int) < 256 := by have := s[k].toNat_lt; omega
      have hes := ent_size (s[k].toNat : Int)
      clear hT
      obtain ⟨E, HEE⟩ : ∃ E, Hid (ent (s[k].toNat : Int) = E) := ⟨ent (s[k].toNat : Int), show ent _ = ent _ from rfl⟩
      rw [HEE.out] at hc hes
      by_cases hE : E.toList.isEmpty = true
      · go_wp2
        go_roundw
        case rel => exact ⟨k + 1, st, N, by omega, by omega, by go_num, rfl, hN, HN, hownr, esc_skip s k st hlt hst (by rw [HEE.out]; exact (empty_iff E).1 hE) HE.out, hbel⟩
        case measure => simp [intOf]; omega
      · have hE' : E.toList.isEmpty = false := by simpa using hE
        clear hE
        have hxs : (s.extract st k).size ≤ 4096 := by rw [cut_size s st k hk hst]; omega
        go_wp2_with (first
          | (at_builtin; refine Lib.wpList_append_own_string _ rfl (.tmp 21) (.tmp 25) 22 9 rfl base 5 i0 Ybad.underlying22 Ybad.underlying9 hi hz0 hz1 hz2 _ N _ rfl hownr (s.extract st k) rfl (by unfold maxLen; omega) (by omega) (by omega) ?_; intro v1 w1 hown1 hg1 _; have hb1 := hbel.grown hg1 (by omega) (fun k hk => (hownr.lt k hk).1); have hs1 := hb1.size)
          | (at_builtin; refine Lib.wpList_append_own_string _ rfl (.tmp 27) (.tmp 28) 22 9 rfl base 5 i0 Ybad.underlying22 Ybad.underlying9 hi hz0 hz1 hz2 _ _ _ rfl hown1 E rfl (by unfold maxLen; omega) (by omega) (by omega) ?_; intro v2 w2 hown2 hg2 _))
        have hb2 : Below base w w2 := hb1.grown hg2 (by omega) (fun k hk => (hown1.lt k hk).1)
        have hf := esc_hit s k st hlt (by rw [HEE.out]; intro e; rw [(empty_iff E).2 e] at hE'; cases hE') HE.out
        rw [HEE.out] at hf
        have hown3 := hit_own (cells_cut s st k) (cut_length s st k hk |>.trans (cut_size s st k hk hst).symm) HN.out rfl hf hown2
        have hl3 := esc_length ((sb s).take (k + 1))
        rw [List.length_take, sb_length] at hl3
        have HF : Hid (esc ((sb s).take (k + 1)) = esc ((sb s).take st) ++ ((sb s).take k).drop st ++ sb E) := hf
        clear hf hown2 hown1
        go_roundw
        case rel => exact ⟨k + 1, k + 1, _, by omega, Nat.le_refl _, by go_num, by go_num, by omega, rfl, hown3, by simp [Hid], hb2⟩
        case measure => simp [intOf]; omega
    · obtain rfl : k = s.size := by omega
      have hxs : (s.extract st s.size).size ≤ 4096 := by rw [cut_size s st s.size hk hst]; omega
      clear hT
      go_wp2_with (at_builtin; refine Lib.wpList_append_own_string _ rfl (.tmp 32) (.tmp 35) 22 9 rfl base 5 i0 Ybad.underlying22 Ybad.underlying9 hi hz0 hz1 hz2 _ N _ rfl hownr (s.extract st s.size) rfl (by unfold maxLen; omega) (by omega) (by omega) ?_; intro v1 w1 hown1 hg1 _)
      go_ret
      have hfull : (sb s).take s.size = sb s := List.take_of_length_le (by rw [sb_length]; exact Nat.le_refl _)
      have hf := HE.out
      have hz := cut_length s st s.size hk
      have hc := cells_cut s st s.size
      rw [hfull] at hf hz hc
      exact ⟨_, rfl, end_own hc (hz.trans (cut_size s st s.size hk hst).symm) HN.out hf hown1, hbel.grown hg1 (by omega) (fun k hk => (hownr.lt k hk).1)⟩

end Go.Proofs.YbulkaoueDoor
