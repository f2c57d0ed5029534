/-
  THE WALK OF 'LawS2012BKeepsReceiver'.
-/
import Derived.Test.YbulkaoqkAppendTo
import Derived.Test.YbulkaoqkEqslot
namespace Go.Proofs.Ybulkaoqk
open Go.RowKit

/-- The sixteen slots of the argument, as the array's cells. -/
def scs (s : Nat → Slot) : List Value := (List.range 16).flatMap fun i => sc (s i)
theorem scs_at (s : Nat → Slot) (i : Nat) (hi : i < 16) : ((scs s).drop (i * 4)).take 4 = sc (s i) := by
  match i, hi with
  | 0, _ => rfl
  | 1, _ => rfl
  | 2, _ => rfl
  | 3, _ => rfl
  | 4, _ => rfl
  | 5, _ => rfl
  | 6, _ => rfl
  | 7, _ => rfl
  | 8, _ => rfl
  | 9, _ => rfl
  | 10, _ => rfl
  | 11, _ => rfl
  | 12, _ => rfl
  | 13, _ => rfl
  | 14, _ => rfl
  | 15, _ => rfl
  | n + 16, h => exact absurd h (by omega)
theorem slots_of_block {w : World} {b : Nat} {s : Nat → Slot} (h : w.heap[b]? = some (.cells (scs s).toArray 29 (0, 0))) : Slots w b s := fun i hi => range_of_block h (i * 4) 4 _ (scs_at s i hi)

theorem pdp_of_rcd {w : World} {g o k : Nat} {s : Slot} (h : w.rangeAt g o (rcd k s)) : w.rangeAt g o (pdp k s) := fun j v hj => by
  refine h j v ?_
  rw [rcd, List.getElem?_append_left (List.getElem?_eq_some_iff.1 hj).1]
  exact hj

/-- What appending onto nil gives: its shape; nil just where nothing was appended. -/
theorem nil_shape {w : World} {base n : Nat} {v : Value} {xs : List Value} (h : w.ownsRow base 43 13 v n xs) (hn : v = .slice none 0 0 ↔ n = 0) : ∃ a cap, v = .slice a n cap ∧ (a.isNone == ((n : Int) == 0)) = true := by
  rcases h.2 with ⟨rfl, rfl⟩ | ⟨g, cap, cur, rfl, _⟩
  · exact ⟨none, 0, rfl, rfl⟩
  · refine ⟨some ⟨g, 0, none⟩, cap, rfl, ?_⟩
    have : ¬ n = 0 := fun e => by have := hn.2 e; cases this
    simp
    omega

/-- The seventeen cells that the test on one record reads: a name that unfolds to a conjunction. -/
abbrev PdpSlot (g o b p k : Nat) (st ti : Int) (apn : ByteArray) (ex : Int) (w : World) : Prop :=
  w.cell? ⟨g, o, none⟩ = some (.int .u8 k) ∧ w.cell? ⟨g, o + 1, none⟩ = some (.int .u8 ti) ∧ w.cell? ⟨g, o + 2, none⟩ = some (.int .u8 (st % 4)) ∧ w.cell? ⟨g, o + 3, none⟩ = some (.int .u64 0) ∧ w.cell? ⟨g, o + 4, none⟩ = some (.int .u64 0) ∧
  w.cell? ⟨g, o + 5, none⟩ = some (.pointer none) ∧ w.cell? ⟨g, o + 6, none⟩ = some (.int .u64 0) ∧ w.cell? ⟨g, o + 7, none⟩ = some (.int .u64 0) ∧ w.cell? ⟨g, o + 8, none⟩ = some (.pointer none) ∧ w.cell? ⟨g, o + 9, none⟩ = some (.string apn) ∧
  w.cell? ⟨g, o + 10, none⟩ = some (.int .u8 0) ∧ w.cell? ⟨g, o + 11, none⟩ = some (.int .i64 0) ∧ w.cell? ⟨g, o + 12, none⟩ = some (.int .i64 ex) ∧
  w.cell? ⟨b, p, none⟩ = some (.int .u8 st) ∧ w.cell? ⟨b, p + 1, none⟩ = some (.int .u8 ti) ∧ w.cell? ⟨b, p + 2, none⟩ = some (.string apn) ∧ w.cell? ⟨b, p + 3, none⟩ = some (.int .i64 ex)
theorem PdpSlot.of {g o b p k : Nat} {st ti : Int} {apn : ByteArray} {ex : Int} {w : World} (h : w.rangeAt g o (pdp k ⟨st, ti, apn, ex⟩)) (hs : w.rangeAt b p (sc ⟨st, ti, apn, ex⟩)) : PdpSlot g o b p k st ti apn ex w :=
  ⟨h 0 _ rfl, h 1 _ rfl, h 2 _ rfl, h 3 _ rfl, h 4 _ rfl, h 5 _ rfl, h 6 _ rfl, h 7 _ rfl, h 8 _ rfl, h 9 _ rfl, h 10 _ rfl, h 11 _ rfl, h 12 _ rfl, hs 0 _ rfl, hs 1 _ rfl, hs 2 _ rfl, hs 3 _ rfl⟩
theorem PdpSlot.below {g o b p k B : Nat} {st ti : Int} {apn : ByteArray} {ex : Int} {w w' : World} (h : PdpSlot g o b p k st ti apn ex w) (hb : Below B w w') (hg : g < B) (hbB : b < B) : PdpSlot g o b p k st ti apn ex w' := by
  have eg : ∀ j, w'.cell? ⟨g, j, none⟩ = w.cell? ⟨g, j, none⟩ := fun j => hb.cell (p := ⟨g, j, none⟩) hg
  have eb : ∀ j, w'.cell? ⟨b, j, none⟩ = w.cell? ⟨b, j, none⟩ := fun j => hb.cell (p := ⟨b, j, none⟩) hbB
  unfold PdpSlot
  simp only [eg, eb]
  exact h

theorem eqslot_lit (k : Nat) (st ti : Int) (apn : ByteArray) (ex : Int) (hk : k < 16) (h0 : 0 ≤ st) (h1 : st ≤ 255) (h2 : 0 ≤ ti) (h3 : ti ≤ 255) (w : World) :
    Calls Yba.prog 12 #[.agg #[.int .u8 k, .int .u8 ti, .int .u8 (st % 4), .int .u64 0, .int .u64 0, .pointer none, .int .u64 0, .int .u64 0, .pointer none, .string apn, .int .u8 0, .int .i64 0, .int .i64 ex], .int .i64 k, .agg #[.int .u8 st, .int .u8 ti, .string apn, .int .i64 ex]] w
      fun e w' => e = .returned (.bool true) ∧ Below w.heap.size w w' :=
  eqslot_any k ⟨st, ti, apn, ex⟩ hk ⟨h0, h1, h2, h3⟩ w

set_option maxHeartbeats 1000000 in
theorem keeps_walk (s : Nat → Slot) (hok : ∀ i, (s i).Ok) (w : World) :
    Calls Yba.prog 6 #[.agg (scs s).toArray] w fun e w' => e = .returned (.bool true) ∧ Below w.heap.size w w' := by
  have hnilq := fun (w : World) (a : Option Addr) (n c : Nat) => Lib.run_eql_slice_nil (P := Yba.prog) w 30 43 a n c 0 0 Yba.underlying30
  go_enter Yba.func6, Yba.ntmps6
  go_wp2_with (refine wpList_box_named rfl 29 (.tmp 0) rfl (scs s).toArray rfl ?_; intro w1 hg1 hgr1 hs1')
  have hs1 : w.heap.size < w1.heap.size := by omega
  clear hs1'
  have hb1 : Below w.heap.size w w1 := (Below.refl _ _).grown hgr1 (Nat.le_refl _) (fun k hk => by cases hk)
  have sl1 : Slots w1 w.heap.size s := slots_of_block hg1
  refine (build_any w.heap.size s _ hok sl1 (by omega)).mono ?_
  rintro e w2 ⟨rfl, hrec, hb2, hs2⟩
  have sl2 := sl1.below hb2 (by omega)
  go_wp2_with fail
  refine (appendTo_any w1.heap.size w2.heap.size 0 (.slice none 0 0) [] s _ hrec (by omega) (by simp [Value.ownBlock]) (Nat.le_refl _) (World.ownsRow_nil _ _ _ _) (by omega)).mono ?_
  rintro e w3 ⟨v3, rfl, hown3, hb3, hnil3⟩
  have hs3 := hb3.size
  rw [Nat.zero_add] at hown3
  obtain ⟨a3, c3, rfl, hne⟩ := nil_shape hown3 (by simpa using hnil3)
  have sl3 := sl2.below hb3 (by omega)
  have rec3 := hrec.below hb3 (by omega)
  have hB3 : Below w.heap.size w w3 := (hb1.trans (hb2.mono (by omega))).trans (hb3.mono (by omega))
  have hgg : w1.heap.size < w3.heap.size := by omega
  have hbb : w.heap.size < w3.heap.size := by omega
  clear hown3 hnil3 hrec sl2 sl1 hb1 hb2 hb3 hg1 hgr1
  go_wp2
  go_loopw [5, 6] (fun c i wr => ∃ k : Nat, k ≤ 16 ∧ i = .int .i64 k ∧ c = .int .i64 (cnt s k) ∧ Below w3.heap.size w3 wr) (fun _ i _ => 16 - (intOf i).toNat)
  case atStart => exact ⟨0, Nat.zero_le _, rfl, rfl, Below.refl _ _⟩
  case round =>
    obtain ⟨k, hk, rfl, rfl, hbel⟩ := hrel
    have hsz := hbel.size
    have hcl := cnt_le s k
    by_cases hlt : k < 16
    · have rs := rangeAt_below (sl3 k hlt) hbel (by omega)
      have rp : wr.rangeAt w1.heap.size (k * 22) (pdp k (s k)) := by
        have := rangeAt_below (rec3 k hlt) hbel (by omega)
        rw [if_pos hlt] at this
        exact pdp_of_rcd this
      obtain ⟨o0, o1, o2, o3⟩ := hok k
      have HC : Hid (cnt s (k + 1) = if (s k).st % 4 = 0 then cnt s k else cnt s k + 1) := rfl
      obtain ⟨⟨st, ti, apn, ex⟩, HSK⟩ : ∃ x, Hid (s k = x) := ⟨_, rfl⟩
      rw [HSK.out] at rp rs o0 o1 o2 o3 HC
      simp only at o0 o1 o2 o3 HC
      have c0 : wr.cell? ⟨w.heap.size, k * 4, none⟩ = some (.int .u8 st) := rs 0 _ rfl
      have hps := PdpSlot.of rp rs
      have hgw : w1.heap.size < wr.heap.size := by omega
      have hbw : w.heap.size < wr.heap.size := by omega
      have hkI : (k : Int) < 16 := by omega
      have hk0 : (0 : Int) ≤ (k : Int) := by omega
      clear sl3 rec3 hnilq hne
      by_cases hst : st % 4 = 0
      · go_wp2
        have HST : Hid (st % 4 = 0) := hst
        clear hst
        go_region_held3 (fun w' => w'.cell? ⟨w1.heap.size, k * 22, none⟩ = some (.int .u8 k) ∧ w'.cell? ⟨w1.heap.size, k * 22 + 1, none⟩ = some (.int .u8 ti) ∧ w'.cell? ⟨w1.heap.size, k * 22 + 2, none⟩ = some (.int .u8 (st % 4)) ∧ w'.cell? ⟨w1.heap.size, k * 22 + 3, none⟩ = some (.int .u64 0) ∧ w'.cell? ⟨w1.heap.size, k * 22 + 4, none⟩ = some (.int .u64 0) ∧ w'.cell? ⟨w1.heap.size, k * 22 + 5, none⟩ = some (.pointer none) ∧ w'.cell? ⟨w1.heap.size, k * 22 + 6, none⟩ = some (.int .u64 0) ∧ w'.cell? ⟨w1.heap.size, k * 22 + 7, none⟩ = some (.int .u64 0) ∧ w'.cell? ⟨w1.heap.size, k * 22 + 8, none⟩ = some (.pointer none) ∧ w'.cell? ⟨w1.heap.size, k * 22 + 9, none⟩ = some (.string apn) ∧ w'.cell? ⟨w1.heap.size, k * 22 + 10, none⟩ = some (.int .u8 0) ∧ w'.cell? ⟨w1.heap.size, k * 22 + 11, none⟩ = some (.int .i64 0) ∧ w'.cell? ⟨w1.heap.size, k * 22 + 12, none⟩ = some (.int .i64 ex) ∧ w'.cell? ⟨w.heap.size, k * 4, none⟩ = some (.int .u8 st) ∧ w'.cell? ⟨w.heap.size, k * 4 + 1, none⟩ = some (.int .u8 ti) ∧ w'.cell? ⟨w.heap.size, k * 4 + 2, none⟩ = some (.string apn) ∧ w'.cell? ⟨w.heap.size, k * 4 + 3, none⟩ = some (.int .i64 ex)) (first | exact hps | exact PdpSlot.below (w := wr.drew) hps hb5 hgw hbw) ((go_at_call 12; refine (eqslot_lit k st ti apn ex hlt o0 o1 o2 o3 _).mono ?_; rintro e w5 ⟨rfl, hb5⟩))
        go_wp2
        go_roundw
        case rel => exact ⟨k + 1, by omega, by go_num, by rw [HC.out, if_pos HST.out], hbel.drew.trans (hb5.mono hsz)⟩
        case measure => simp [intOf]; omega
      · go_wp2
        have HST : Hid (¬ st % 4 = 0) := hst
        clear hst
        go_region_held3 (fun w' => w'.cell? ⟨w1.heap.size, k * 22, none⟩ = some (.int .u8 k) ∧ w'.cell? ⟨w1.heap.size, k * 22 + 1, none⟩ = some (.int .u8 ti) ∧ w'.cell? ⟨w1.heap.size, k * 22 + 2, none⟩ = some (.int .u8 (st % 4)) ∧ w'.cell? ⟨w1.heap.size, k * 22 + 3, none⟩ = some (.int .u64 0) ∧ w'.cell? ⟨w1.heap.size, k * 22 + 4, none⟩ = some (.int .u64 0) ∧ w'.cell? ⟨w1.heap.size, k * 22 + 5, none⟩ = some (.pointer none) ∧ w'.cell? ⟨w1.heap.size, k * 22 + 6, none⟩ = some (.int .u64 0) ∧ w'.cell? ⟨w1.heap.size, k * 22 + 7, none⟩ = some (.int .u64 0) ∧ w'.cell? ⟨w1.heap.size, k * 22 + 8, none⟩ = some (.pointer none) ∧ w'.cell? ⟨w1.heap.size, k * 22 + 9, none⟩ = some (.string apn) ∧ w'.cell? ⟨w1.heap.size, k * 22 + 10, none⟩ = some (.int .u8 0) ∧ w'.cell? ⟨w1.heap.size, k * 22 + 11, none⟩ = some (.int .i64 0) ∧ w'.cell? ⟨w1.heap.size, k * 22 + 12, none⟩ = some (.int .i64 ex) ∧ w'.cell? ⟨w.heap.size, k * 4, none⟩ = some (.int .u8 st) ∧ w'.cell? ⟨w.heap.size, k * 4 + 1, none⟩ = some (.int .u8 ti) ∧ w'.cell? ⟨w.heap.size, k * 4 + 2, none⟩ = some (.string apn) ∧ w'.cell? ⟨w.heap.size, k * 4 + 3, none⟩ = some (.int .i64 ex)) (first | exact hps | exact PdpSlot.below (w := wr.drew) hps hb5 hgw hbw) ((go_at_call 12; refine (eqslot_lit k st ti apn ex hlt o0 o1 o2 o3 _).mono ?_; rintro e w5 ⟨rfl, hb5⟩))
        go_wp2
        go_roundw
        case rel => exact ⟨k + 1, by omega, by go_num, by rw [HC.out, if_neg HST.out]; go_num, hbel.drew.trans (hb5.mono hsz)⟩
        case measure => simp [intOf]; omega
    · obtain rfl : k = 16 := by omega
      clear sl3 rec3
      go_wp2
      go_ret
      exact ⟨rfl, hB3.trans (hbel.mono (by omega))⟩

end Go.Proofs.Ybulkaoqk
