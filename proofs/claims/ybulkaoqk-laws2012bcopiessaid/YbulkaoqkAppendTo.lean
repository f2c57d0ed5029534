/-
  THE CONTRACT OF '(*records).appendTo': onto a slice that the caller owns: a copy of the context of each record whose state is not 0, in order.
-/
import Derived.Test.YbulkaoqkBuild
import Derived.Maps.AppendAt
namespace Go.Proofs.Ybulkaoqk
open Go.RowKit

/-- What is appended by the first k records; how many they are. -/
def act (s : Nat → Slot) : Nat → List Value
  | 0 => []
  | k + 1 => if (s k).st % 4 = 0 then act s k else act s k ++ pdp k (s k)
def cnt (s : Nat → Slot) : Nat → Nat
  | 0 => 0
  | k + 1 => if (s k).st % 4 = 0 then cnt s k else cnt s k + 1
theorem cnt_le (s : Nat → Slot) : ∀ k, cnt s k ≤ k
  | 0 => Nat.le_refl _
  | k + 1 => by
    have := cnt_le s k
    unfold cnt
    split <;> omega

theorem Yba.zero55 : (Yba.prog.info? 55).map (·.zero) = some (some (.agg (rcd 0 slot0).toArray)) := by kernel_rfl
theorem Yba.size55 : (Yba.prog.info? 55).map (·.size) = some 22 := by kernel_rfl
theorem Yba.size43 : (Yba.prog.info? 43).map (·.size) = some 13 := by kernel_rfl
theorem Yba.info43 : (Yba.prog.info? 43).map (fun i => (i.zero, i.size, i.bytes)) = some (some (.agg (pdp 0 slot0).toArray), 13, 96) := by kernel_rfl

theorem rcd_all (k : Nat) (s : Slot) : (rcd k s).toArray.all (·.oneCell') = true := all_oneCell_toArray (rcd_one k s)

theorem own_kept_none {w w' : World} {base e size n : Nat} {v : Value} {xs : List Value} (h : w.ownsRow base e size v n xs) (hg : w.grownBy w' none) : w'.ownsRow base e size v n xs :=
  h.kept hg (by cases hv : v.ownBlock <;> simp)
theorem own_kept_new {w w' : World} {base e size n N : Nat} {v : Value} {xs : List Value} (h : w.ownsRow base e size v n xs) (hg : w.grownBy w' (some N)) (hN : ∀ k, v.ownBlock = some k → k < N) : w'.ownsRow base e size v n xs :=
  h.kept hg (by
    cases hv : v.ownBlock with
    | none => exact .inl rfl
    | some k => refine .inr ?_; have := hN k hv; simp; omega)
/-- The round's new variable (made, then stored whole) leaves what is owned, and old memory, alone. -/
theorem round_world {w wr w1 w2 : World} {base e size n : Nat} {v : Value} {xs : List Value} (h : wr.ownsRow base e size v n xs) (hb : Below base w wr) (hbase : base ≤ wr.heap.size) (h1 : wr.grownBy w1 none) (h2 : w1.grownBy w2 (some wr.heap.size)) :
    w2.ownsRow base e size v n xs ∧ Below base w w2 :=
  ⟨own_kept_new (own_kept_none h h1) h2 (fun k hk => (h.lt k hk).2), (hb.grown h1 hbase (fun k hk => by cases hk)).grown h2 (Nat.le_trans hbase h1.size) (fun k hk => by cases hk; exact hbase)⟩

/-- The records lie on where their block is not the one that is written. -/
theorem recs_kept {w w' : World} {g : Nat} {s : Nat → Slot} {row : Option Nat} (h : Recs w g s 16) (hg : g < w.heap.size) (hgr : w.grownBy w' row) (hne : some g ≠ row) : Recs w' g s 16 := fun i hi j v hj =>
  (World.cell?_of_block (w := w) (a := ⟨g, i * 22 + j, none⟩) (hgr.block g hg hne)).trans (h i hi j v hj)
theorem round_recs {wr w1 w2 : World} {g : Nat} {s : Nat → Slot} (h : Recs wr g s 16) (hg : g < wr.heap.size) (h1 : wr.grownBy w1 none) (h2 : w1.grownBy w2 (some wr.heap.size)) : Recs w2 g s 16 :=
  recs_kept (recs_kept h hg h1 (by simp)) (Nat.lt_of_lt_of_le hg h1.size) h2 (by simp; omega)

set_option maxHeartbeats 1000000 in
theorem appendTo_any (g base n : Nat) (v : Value) (xs : List Value) (s : Nat → Slot) (w : World) (hrec : Recs w g s 16) (hg : g < w.heap.size) (hgv : ¬ v.ownBlock = some g) (hbase : base ≤ w.heap.size) (hown : w.ownsRow base 43 13 v n xs) (hn : n ≤ 1024) :
    Calls Yba.prog 11 #[.pointer (some ⟨g, 0, none⟩), v] w fun e w' => ∃ v', e = .returned v' ∧ w'.ownsRow base 43 13 v' (n + cnt s 16) (xs ++ act s 16) ∧ Below base w w' ∧ (v' = .slice none 0 0 ↔ v = .slice none 0 0 ∧ cnt s 16 = 0) := by
  obtain ⟨i0, hi, hz0, hz1, hz2⟩ := info_parts Yba.info43
  go_enter Yba.func11, Yba.ntmps11
  go_wp2
  go_loopw [1, 9] (fun u i wr => ∃ k : Nat, k ≤ 16 ∧ i = .int .i64 k ∧ wr.ownsRow base 43 13 u (n + cnt s k) (xs ++ act s k) ∧ Below base w wr ∧ Recs wr g s 16 ∧ Hid (¬ u.ownBlock = some g) ∧ Hid (u = .slice none 0 0 ↔ v = .slice none 0 0 ∧ cnt s k = 0)) (fun _ i _ => 16 - (intOf i).toNat)
  case atStart => exact ⟨0, Nat.zero_le _, rfl, by simpa [act, cnt] using hown, Below.refl _ _, hrec, hgv, by simp [Hid, cnt]⟩
  case round =>
    obtain ⟨k, hk, rfl, hownr, hbel, hrecr, hgu, hnil⟩ := hrel
    have hsz := hbel.size
    clear hown hgv hrec
    by_cases hlt : k < 16
    · have hrk : wr.rangeAt g (k * 22) (rcd k (s k)) := by
        have := hrecr k hlt
        rwa [if_pos hlt] at this
      by_cases hst : (s k).st % 4 = 0
      · go_wp2_with (first
          | (refine wpList_load_mid rfl 55 (.tmp 12) rfl g (k * 22) rfl (rcd k (s k)) _ hrk Yba.underlying55 rfl Yba.size55 ?_)
          | (refine wpList_alloc_named rfl 55 rfl (.agg (rcd 0 slot0).toArray) (run_zero_of Yba.zero55) ?_; intro w1 hg1 hgr1 hs1)
          | (refine wpList_store_named rfl 55 (.tmp 6) (.tmp 13) rfl wr.heap.size (rcd k (s k)).toArray rfl rfl 55 _ hg1 Yba.size55 rfl (rcd_all k (s k)) ?_; intro w2 hg2 hgr2 hs2; have c2 : w2.cell? ⟨wr.heap.size, 2, none⟩ = some (.int .u8 ((s k).st % 4)) := (cell_of_row w2 _ 2 _ _ _ hg2).trans rfl))
        have R := round_world hownr hbel (by omega) hgr1 hgr2
        have R2 := round_recs hrecr (by omega) hgr1 hgr2
        have e1 : cnt s (k + 1) = cnt s k := by simp [cnt, hst]
        have e2 : act s (k + 1) = act s k := by simp [act, hst]
        go_roundw
        case rel => exact ⟨k + 1, by omega, by go_num, by rw [e1, e2]; exact R.1, R.2, R2, hgu, by rw [e1]; exact hnil⟩
        case measure => simp [intOf]; omega
      · go_wp2_with (first
          | (refine wpList_load_mid rfl 55 (.tmp 12) rfl g (k * 22) rfl (rcd k (s k)) _ hrk Yba.underlying55 rfl Yba.size55 ?_)
          | (refine wpList_alloc_named rfl 55 rfl (.agg (rcd 0 slot0).toArray) (run_zero_of Yba.zero55) ?_; intro w1 hg1 hgr1 hs1)
          | (refine wpList_store_named rfl 55 (.tmp 6) (.tmp 13) rfl wr.heap.size (rcd k (s k)).toArray rfl rfl 55 _ hg1 Yba.size55 rfl (rcd_all k (s k)) ?_; intro w2 hg2 hgr2 hs2; have c2 : w2.cell? ⟨wr.heap.size, 2, none⟩ = some (.int .u8 ((s k).st % 4)) := (cell_of_row w2 _ 2 _ _ _ hg2).trans rfl; have R := round_world hownr hbel (by omega) hgr1 hgr2; have R2 := round_recs hrecr (by omega) hgr1 hgr2)
          | (refine wpList_load_mid rfl 43 (.tmp 19) rfl wr.heap.size 0 rfl (pdp k (s k)) _ (range_of_block hg2 0 13 _ rfl) Yba.underlying43 rfl Yba.size43 ?_)
          | (refine wpList_buildSlice_one rfl 30 (.tmp 20) rfl 43 Yba.underlying30 i0 _ 13 hi hz0 hz1 (by decide) (by decide) (pdp k (s k)).toArray rfl rfl ?_; intro w3 hg3 hgr3 hs3)
          | (at_builtin; refine wpList_append_own_at _ rfl (.tmp 18) (.tmp 21) 30 rfl base 43 i0 _ 13 96 Yba.underlying30 hi hz0 hz1 hz2 rfl (by decide) _ (n + cnt s k) _ rfl (own_kept_none R.1 hgr3) ⟨w2.heap.size, 0, none⟩ 1 1 (pdp k (s k)) rfl rfl ?c1 (pdp_one k (s k)) ?c3 ?c4 ?c5 ?_; rotate_right; intro v4 w4 hown4 hg4 hnil4 hat4))
        · have e1 : cnt s (k + 1) = cnt s k + 1 := by simp [cnt, hst]
          have e2 : act s (k + 1) = act s k ++ pdp k (s k) := by simp [act, hst]
          have B3 : Below base w w3 := R.2.grown hgr3 (by have := hgr1.size; have := hgr2.size; omega) (fun k hk => by cases hk)
          have B4 : Below base w w4 := B3.grown hg4 (by have := hgr1.size; have := hgr2.size; have := hgr3.size; omega) (fun k hk => (R.1.lt k hk).1)
          have N4 : ¬ v4 = .slice none 0 0 := fun e => by have := hnil4.1 e; exact absurd this.2 (by decide)
          have R3 : Recs w3 g s 16 := recs_kept R2 (by have := hgr1.size; have := hgr2.size; omega) hgr3 (by simp)
          have R4 : Recs w4 g s 16 := recs_kept R3 (by have := hgr1.size; have := hgr2.size; have := hgr3.size; omega) hg4 (fun e => hgu.out e.symm)
          have G4 : ¬ v4.ownBlock = some g := fun e => by
            rcases hat4 with h | h
            · exact hgu.out (h.symm.trans e)
            · rw [e] at h
              have h' := Option.some.inj h
              have := hgr1.size; have := hgr2.size; have := hgr3.size
              omega
          go_roundw
          case rel => exact ⟨k + 1, by omega, by go_num, by rw [e1, e2, ← List.append_assoc]; exact hown4, B4, R4, G4, by rw [e1]; exact ⟨fun h => absurd h N4, fun h => absurd h.2 (by omega)⟩⟩
          case measure => simp [intOf]; omega
        case c1 =>
          intro j u hu
          rw [Addr.add_lit, Nat.zero_add, cell_of_row w3 _ _ _ _ _ hg3]
          simpa using hu
        case c3 => have := cnt_le s k; unfold maxLen; omega
        case c4 => have := cnt_le s k; omega
        case c5 => have := hgr1.size; have := hgr2.size; have := hgr3.size; omega
    · obtain rfl : k = 16 := by omega
      clear hrecr hgu
      go_wp2
      go_ret
      exact ⟨_, rfl, hownr, hbel, hnil.out⟩

end Go.Proofs.Ybulkaoqk
