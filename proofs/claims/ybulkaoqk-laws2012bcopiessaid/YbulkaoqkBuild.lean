/-
  THE CONTRACT OF 'zzs2012bbuild': sixteen records in a new block, each made from its slot.
-/
import Derived.Test.YbulkaoqkClone
import Derived.Test.YbulkaoqkRecs
import Derived.Deep.RegionHeld3
namespace Go.Proofs.Ybulkaoqk
open Go.RowKit

def zero58 : List Value := (List.range 16).flatMap fun _ => rcd 0 slot0
theorem Yba.zero58 : (Yba.prog.info? 58).map (·.zero) = some (some (.agg zero58.toArray)) := by kernel_rfl
theorem Yba.size28 : (Yba.prog.info? 28).map (·.size) = some 4 := by kernel_rfl

theorem zero58_at (i : Nat) (hi : i < 16) : (zero58.drop (i * 22)).take 22 = rcd 0 slot0 := by
  match i, hi with
  | 0, _ => rfl
  | 1, _ => rfl
  | 2, _ => rfl
  | 3, _ => rfl
  | 4, _ => rfl
  | 5, _ => rfl
  | 6, _ => rfl
  | 7, _ => rfl
  | 8, _ => rfl
  | 9, _ => rfl
  | 10, _ => rfl
  | 11, _ => rfl
  | 12, _ => rfl
  | 13, _ => rfl
  | 14, _ => rfl
  | 15, _ => rfl
  | n + 16, h => exact absurd h (by omega)
theorem zero58_size : (Value.agg zero58.toArray).cells.size = 352 := by kernel_rfl
theorem recs_start {w : World} {g : Nat} {s : Nat → Slot} (h : w.heap[g]? = some (.cells (Value.agg zero58.toArray).cells 58 (0, 0))) : Recs w g s 0 ∧ w.there g 0 352 :=
  ⟨fun i hi => by rw [if_neg (Nat.not_lt_zero i)]; exact range_of_block h (i * 22) 22 _ (zero58_at i hi), there_of_block h 352 (Nat.le_of_eq zero58_size.symm)⟩

theorem rec_zero {w : World} {g k : Nat} {s : Nat → Slot} (h : Recs w g s k) (hk : k < 16) : w.rangeAt g (k * 22) (rcd 0 slot0) := by
  have := h k hk
  rwa [if_neg (Nat.lt_irrefl k)] at this
theorem zero_cells {w : World} {g o : Nat} (h : w.rangeAt g o (rcd 0 slot0)) : w.cell? ⟨g, o, none⟩ = some (.int .u8 0) ∧ w.cell? ⟨g, o + 1, none⟩ = some (.int .u8 0) ∧ w.cell? ⟨g, o + 2, none⟩ = some (.int .u8 0) ∧
    w.cell? ⟨g, o + 9, none⟩ = some (.string ByteArray.empty) ∧ w.cell? ⟨g, o + 12, none⟩ = some (.int .i64 0) :=
  ⟨h 0 _ rfl, h 1 _ rfl, h 2 _ rfl, h 9 _ rfl, h 12 _ rfl⟩
theorem there_cells {w : World} {g k : Nat} (h : w.there g 0 352) (hk : k < 16) : w.frozen? ⟨g, k * 22, none⟩ = false ∧ w.frozen? ⟨g, k * 22 + 1, none⟩ = false ∧ w.frozen? ⟨g, k * 22 + 2, none⟩ = false ∧
    w.frozen? ⟨g, k * 22 + 9, none⟩ = false ∧ w.frozen? ⟨g, k * 22 + 12, none⟩ = false := by
  have f : ∀ j, j < 352 → w.frozen? ⟨g, j, none⟩ = false := fun j hj => by have := (h j hj).2; rwa [Nat.zero_add] at this
  exact ⟨f _ (by omega), f _ (by omega), f _ (by omega), f _ (by omega), f _ (by omega)⟩

theorem build_step {w wr : World} {k : Nat} {s : Nat → Slot} (hrec : Recs wr w.heap.size s k) (hth : wr.there w.heap.size 0 352) (hbel : Below w.heap.size w wr) (hsz : w.heap.size < wr.heap.size) (hlt : k < 16)
    {st ti ex : Int} {apn : ByteArray} (hs : s k = ⟨st, ti, apn, ex⟩) (o : Obj) :
    let X := ((((((wr.setCell ⟨w.heap.size, k * 22, none⟩ (.int .u8 k)).setCell ⟨w.heap.size, k * 22 + 1, none⟩ (.int .u8 ti)).setCell ⟨w.heap.size, k * 22 + 2, none⟩ (.int .u8 (st % 4))).setCell ⟨w.heap.size, k * 22 + 9, none⟩ (.string apn)).setCell ⟨w.heap.size, k * 22 + 12, none⟩ (.int .i64 ex)).alloc o).drew.drew.drew.drew
    Recs X w.heap.size s (k + 1) ∧ X.there w.heap.size 0 352 ∧ Below w.heap.size w X ∧ w.heap.size < X.heap.size := by
  intro X
  have hs5 : ∀ (y : World) (a : Addr) (v : Value), (y.setCell a v).heap.size = y.heap.size := fun y a v => by simp [World.setCell]
  have dr : ∀ y : World, Recs y w.heap.size s (k + 1) → Recs y.drew w.heap.size s (k + 1) := fun _ h => h
  have dt : ∀ y : World, y.there w.heap.size 0 352 → y.drew.there w.heap.size 0 352 := fun _ h => h
  refine ⟨dr _ (dr _ (dr _ (dr _ ((rec_step hrec hlt hs).alloc o)))), dt _ (dt _ (dt _ (dt _ (World.there_alloc (there_setCell (there_setCell (there_setCell (there_setCell (there_setCell hth _ _) _ _) _ _) _ _) _ _) o)))), ?_, ?_⟩
  · exact (((((((((hbel.setCell (Nat.le_refl _) _).setCell (Nat.le_refl _) _).setCell (Nat.le_refl _) _).setCell (Nat.le_refl _) _).setCell (Nat.le_refl _) _).alloc (by rw [hs5, hs5, hs5, hs5, hs5]; omega) o).drew).drew).drew).drew
  · show w.heap.size < (World.alloc _ o).heap.size
    rw [World.size_alloc, hs5, hs5, hs5, hs5, hs5]
    omega

set_option maxHeartbeats 1000000 in
theorem build_any (b : Nat) (s : Nat → Slot) (w : World) (hok : ∀ i, (s i).Ok) (hs : Slots w b s) (hb : b < w.heap.size) :
    Calls Yba.prog 10 #[.pointer (some ⟨b, 0, none⟩)] w fun e w' => e = .returned (.pointer (some ⟨w.heap.size, 0, none⟩)) ∧ Recs w' w.heap.size s 16 ∧ Below w.heap.size w w' ∧ w.heap.size < w'.heap.size := by
  go_enter Yba.func10, Yba.ntmps10
  go_wp2_with (refine wpList_alloc_named rfl 58 rfl (.agg zero58.toArray) (run_zero_of Yba.zero58) ?_; intro w1 hg1 hgr1 hs1)
  have hb1 : Below w.heap.size w w1 := (Below.refl _ _).grown hgr1 (Nat.le_refl _) (fun k hk => by cases hk)
  go_loopw [4] (fun i wr => ∃ k : Nat, k ≤ 16 ∧ i = .int .i64 k ∧ Recs wr w.heap.size s k ∧ wr.there w.heap.size 0 352 ∧ Below w.heap.size w wr ∧ w.heap.size < wr.heap.size) (fun i _ => 16 - (intOf i).toNat)
  case atStart => exact ⟨0, Nat.zero_le _, rfl, (recs_start hg1).1, (recs_start (s := s) hg1).2, hb1, by omega⟩
  case round =>
    obtain ⟨k, hk, rfl, hrec, hth, hbel, hsz⟩ := hrel
    clear hg1 hgr1 hs1 hb1
    by_cases hlt : k < 16
    · have hz := rec_zero hrec hlt
      obtain ⟨c0, c1, c2, c9, c12⟩ := zero_cells hz
      obtain ⟨f0, f1, f2, f9, f12⟩ := there_cells hth hlt
      have hsk := rangeAt_below (hs k hlt) hbel hb
      obtain ⟨o0, o1, o2, o3⟩ := hok k
      obtain ⟨⟨st, ti, apn, ex⟩, HSK⟩ : ∃ x, Hid (s k = x) := ⟨_, rfl⟩
      rw [HSK.out] at hsk o0 o1 o2 o3
      unfold sc at hsk
      simp only at o0 o1 o2 o3 hsk
      have R := build_step hrec hth hbel hsz hlt HSK.out
      clear hz hrec hth hs hbel hok
      have HR := (show Hid _ from R)
      clear R
      go_wp2_with (refine wpList_load_mid rfl 28 (.tmp 14) rfl b (k * 4) rfl [.int .u8 st, .int .u8 ti, .string apn, .int .i64 ex] _ hsk Yba.underlying28 rfl Yba.size28 ?_)
      go_region
      go_wp2
      go_region
      go_wp2
      go_region
      go_wp2
      go_region
      go_wp2
      go_roundw
      case rel =>
        obtain ⟨R1, R2, R3, R4⟩ := HR.out (.cells #[.int .u8 st, .int .u8 ti, .string apn, .int .i64 ex] 28)
        exact ⟨k + 1, by omega, by go_num, R1, R2, R3, R4⟩
      case measure => simp [intOf]; omega
    · have R : Recs wr w.heap.size s 16 := by
        obtain rfl : k = 16 := by omega
        exact hrec
      clear hs hok hrec hth
      go_wp2
      go_ret
      exact ⟨rfl, R, hbel, hsz⟩

end Go.Proofs.Ybulkaoqk
