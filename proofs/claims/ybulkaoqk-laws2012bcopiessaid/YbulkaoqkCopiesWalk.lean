/-
  THE WALK OF 'LawS2012BCopies'.
-/
import Derived.Test.YbulkaoqkOpenSlots
namespace Go.Proofs.Ybulkaoqk
open Go.RowKit

/-- The string "pre". -/
def preS : ByteArray := { data := #[112, 114, 101] }
/-- The cells of the context that the law makes of number 'n' at place 'k'. -/
def preC (k : Nat) (n : Int) : List Value := [.int .u8 n, .int .u8 ((k : Int) % 256), .int .u8 0, .int .u64 0, .int .u64 0, .pointer none, .int .u64 0, .int .u64 0, .pointer none, .string preS, .int .u8 0, .int .i64 0, .int .i64 0]
/-- Those of the first 'k' numbers. -/
def preL (xs : List Int) : Nat → List Value
  | 0 => []
  | k + 1 => preL xs k ++ preC k (xs.getD k 0)
theorem preC_length (k : Nat) (n : Int) : (preC k n).length = 13 := rfl
theorem preL_length (xs : List Int) : ∀ k, (preL xs k).length = k * 13
  | 0 => rfl
  | k + 1 => by rw [preL, List.length_append, preL_length xs k, preC_length]; omega
theorem preC_one (k : Nat) (n : Int) : ∀ u ∈ preC k n, u.oneCell' = true := by
  intro u hu
  simp only [preC, List.mem_cons, List.not_mem_nil, or_false] at hu
  rcases hu with rfl | rfl | rfl | rfl | rfl | rfl | rfl | rfl | rfl | rfl | rfl | rfl | rfl <;> rfl

theorem new_cells (w : World) (L : List Value) (e : TypeId) : ∀ j u, L[j]? = some u → (w.alloc (.cells L.toArray e)).cell? ((⟨w.heap.size, 0, none⟩ : Addr).add j) = some u := by
  intro j u hu
  rw [Addr.add_lit, Nat.zero_add, World.cell?_alloc_new]
  simpa using hu

theorem act_length (s : Nat → Slot) : ∀ k, (act s k).length = cnt s k * 13
  | 0 => rfl
  | k + 1 => by
    have := act_length s k
    unfold act cnt
    split
    · exact this
    · rw [List.length_append, this, pdp_length]; omega
theorem cnt_mono (s : Nat → Slot) (m : Nat) : ∀ K, m ≤ K → cnt s m ≤ cnt s K
  | 0, h => by obtain rfl : m = 0 := by omega
               exact Nat.le_refl _
  | K + 1, h => by
    by_cases e : m = K + 1
    · subst e; exact Nat.le_refl _
    · have := cnt_mono s m K (by omega)
      have : cnt s K ≤ cnt s (K + 1) := by
        rw [cnt]
        split <;> omega
      omega
/-- Where the context of an active record lies among what was appended. -/
theorem act_at (s : Nat → Slot) (m : Nat) (hm : ¬ (s m).st % 4 = 0) {j : Nat} {v : Value} (hj : (pdp m (s m))[j]? = some v) : ∀ K, m < K → (act s K)[cnt s m * 13 + j]? = some v
  | 0, h => absurd h (Nat.not_lt_zero _)
  | K + 1, h => by
    by_cases e : m = K
    · subst e
      rw [act, if_neg hm, List.getElem?_append_right (by rw [act_length]; omega), act_length]
      rw [show cnt s m * 13 + j - cnt s m * 13 = j by omega]
      exact hj
    · have ih := act_at s m hm hj K (by omega)
      rw [act]
      split
      · exact ih
      · rw [List.getElem?_append_left (List.getElem?_eq_some_iff.1 ih).1]
        exact ih
theorem preL_at (xs : List Int) (m : Nat) {j : Nat} {v : Value} (hj : (preC m (xs.getD m 0))[j]? = some v) : ∀ K, m < K → (preL xs K)[m * 13 + j]? = some v
  | 0, h => absurd h (Nat.not_lt_zero _)
  | K + 1, h => by
    by_cases e : m = K
    · subst e
      rw [preL, List.getElem?_append_right (by rw [preL_length]; omega), preL_length]
      rw [show m * 13 + j - m * 13 = j by omega]
      exact hj
    · have ih := preL_at xs m hj K (by omega)
      rw [preL, List.getElem?_append_left (List.getElem?_eq_some_iff.1 ih).1]
      exact ih

/-- WHAT THE RESULT YIELDS WHEN IT IS READ. -/
def Got (w : World) (a : Option Addr) (N : Nat) (L : List Value) : Prop :=
  L.length = N * 13 ∧ (0 < N → ∃ g, a = some ⟨g, 0, none⟩ ∧ g < w.heap.size ∧ ∀ j v, L[j]? = some v → w.cell? ⟨g, j, none⟩ = some v)
theorem got_of {w : World} {base N : Nat} {v : Value} {L : List Value} (h : w.ownsRow base 43 13 v N L) : ∃ a cap, v = .slice a N cap ∧ Got w a N L := by
  rcases h.2 with ⟨rfl, rfl⟩ | ⟨g, cap, cur, rfl, hb, hg, _⟩
  · exact ⟨none, 0, rfl, h.1, fun hp => absurd hp (by omega)⟩
  · refine ⟨some ⟨g, 0, none⟩, cap, rfl, h.1, fun _ => ⟨g, rfl, (Array.getElem?_eq_some_iff.1 hg).1, fun j v hv => ?_⟩⟩
    have hc := h.cells (g := g) rfl j v hv
    rwa [Addr.add_lit, Nat.zero_add] at hc
theorem got_pre {w : World} {g len : Nat} {xs : List Int} {A : List Value} (h : ∀ j v, (preL xs len ++ A)[j]? = some v → w.cell? ⟨g, j, none⟩ = some v) {k : Nat} (hk : k < len) :
    w.cell? ⟨g, k * 13, none⟩ = some (.int .u8 (xs.getD k 0)) ∧ w.cell? ⟨g, k * 13 + 1, none⟩ = some (.int .u8 ((k : Int) % 256)) ∧ w.cell? ⟨g, k * 13 + 9, none⟩ = some (.string { data := #[112, 114, 101] }) := by
  have f : ∀ j v, (preC k (xs.getD k 0))[j]? = some v → w.cell? ⟨g, k * 13 + j, none⟩ = some v := fun j v hv => by
    have := preL_at xs k hv len hk
    refine h _ _ ?_
    rw [List.getElem?_append_left (List.getElem?_eq_some_iff.1 this).1]
    exact this
  exact ⟨f 0 _ rfl, f 1 _ rfl, f 9 _ rfl⟩
theorem got_act {w : World} {g len : Nat} {xs : List Int} {s : Nat → Slot} (h : ∀ j v, (preL xs len ++ act s 16)[j]? = some v → w.cell? ⟨g, j, none⟩ = some v) {m : Nat} (hm : m < 16) (hst : ¬ (s m).st % 4 = 0) :
    w.rangeAt g ((len + cnt s m) * 13) (pdp m (s m)) := fun j v hv => by
  have := act_at s m hst hv 16 hm
  refine h _ _ ?_
  rw [List.getElem?_append_right (by rw [preL_length]; omega), preL_length]
  rw [show (len + cnt s m) * 13 + j - len * 13 = cnt s m * 13 + j by omega]
  exact this

theorem owns_lie {base e size n : Nat} {w w' : World} {v : Value} {xs : List Value} (h : w.ownsRow base e size v n xs) (hb : Below w.heap.size w w') : w'.ownsRow base e size v n xs := by
  refine ⟨h.1, ?_⟩
  rcases h.2 with hn | ⟨g, cap, cur, rfl, hbg, hg, r⟩
  · exact .inl hn
  · exact .inr ⟨g, cap, cur, rfl, hbg, by rw [hb.block g (Array.getElem?_eq_some_iff.1 hg).1]; exact hg, r⟩
theorem owns_not_at {base e size n : Nat} {w : World} {v : Value} {xs : List Value} (h : w.ownsRow base e size v n xs) : ¬ v.ownBlock = some w.heap.size := fun he => by
  have := (h.lt _ he).2
  omega

set_option maxHeartbeats 1000000 in
theorem copies_walk (s : Nat → Slot) (hok : ∀ i, (s i).Ok) (a : Option Addr) (len cap : Nat) (xs : List Int) (w : World) (hr : Rd w w.heap.size a len xs) (hlen : len ≤ 1024) :
    Calls Yba.prog 5 #[.agg (scs s).toArray, .slice a len cap] w fun e w' => e = .returned (.bool true) ∧ Below w.heap.size w w' := by
  obtain ⟨i0, hi, hz0, hz1, hz2⟩ := info_parts Yba.info43
  go_enter Yba.func5, Yba.ntmps5
  go_wp2_with (first
    | (refine wpList_box_named rfl 29 (.tmp 0) rfl (scs s).toArray rfl ?_; intro w1 hg1 hgr1 hs1'; have hs1 : w.heap.size < w1.heap.size := (by omega); clear hs1')
    | (at_make; refine wpList_make_own _ rfl _ (.tmp 18) 30 rfl w1.heap.size 43 i0 _ 13 Yba.underlying30 hi hz0 hz1 .i64 .i64 _ len rfl rfl rfl (by rw [hz2]; omega) (by unfold maxLen; omega) (Nat.le_refl _) ?_; intro w2 hown2 hgr2))
  have hb1 : Below w.heap.size w w1 := (Below.refl _ _).grown hgr1 (Nat.le_refl _) (fun k hk => by cases hk)
  have sl1 : Slots w1 w.heap.size s := slots_of_block hg1
  have hb2 : Below w1.heap.size w1 w2 := (Below.refl _ _).grown hgr2 (Nat.le_refl _) (fun k hk => by cases hk)
  have r1 : Rd w1 w1.heap.size a len xs := (hr.below hb1).mono (by omega)
  clear hg1 hgr1 hgr2 hr
  go_loopw [5, 22] (fun v i wr => ∃ k : Nat, k ≤ len ∧ i = .int .i64 k ∧ wr.ownsRow w1.heap.size 43 13 v k (preL xs k) ∧ Below w1.heap.size w1 wr) (fun _ i _ => len - (intOf i).toNat)
  case atStart => exact ⟨0, Nat.zero_le _, rfl, hown2, hb2⟩
  case round =>
    obtain ⟨k, hk, rfl, hown, hbel⟩ := hrel
    have hsz := hbel.size
    clear hown2 hb2
    by_cases hlt : k < len
    · obtain ⟨b, off, rfl, hbB, hc⟩ := r1.2 (by omega)
      have hck : wr.cell? ⟨b, off + k, none⟩ = some (.int .u8 (xs.getD k 0)) := (hbel.cell (by exact hbB)).trans (hc k hlt)
      clear hc r1 sl1
      go_wp2_with (at_builtin; refine wpList_append_own _ rfl (.tmp 27) (.tmp 32) 30 rfl w1.heap.size 43 i0 _ 13 96 Yba.underlying30 hi hz0 hz1 hz2 rfl (by decide) _ k _ rfl (hown.alloc _) ⟨wr.heap.size, 0, none⟩ 1 1 (preC k (xs.getD k 0)) rfl rfl (new_cells wr (preC k (xs.getD k 0)) 43) (preC_one _ _) (by unfold maxLen; omega) (by omega) (by simp; omega) ?_; intro v4 w4 hown4 hg4 _)
      have B4 : Below w1.heap.size w1 w4 := (hbel.alloc (by omega) _).grown hg4 (by simp; omega) (fun k hk => (hown.lt k hk).1)
      go_roundw
      case rel => exact ⟨k + 1, by omega, by go_num, hown4, B4⟩
      case measure => simp [intOf]; omega
    · have hown' := hown
      rw [show k = len from by omega] at hown'
      clear hown
      go_wp2_with fail
      have sl2 := sl1.below hbel hs1
      refine (build_any w.heap.size s _ hok sl2 (by omega)).mono ?_
      rintro e w3 ⟨rfl, hrec, hb3, hs3⟩
      have hown3 := owns_lie hown' hb3
      have hgv := owns_not_at hown'
      have sl3 := sl2.below hb3 (by omega)
      clear hown' sl2 sl1
      go_wp2_with fail
      refine (appendTo_any wr.heap.size w1.heap.size len _ (preL xs len) s _ hrec (by omega) hgv (by omega) hown3 hlen).mono ?_
      rintro e w4 ⟨v4, rfl, hown4, hb4, _⟩
      obtain ⟨N, HN⟩ : ∃ N, Hid (len + cnt s 16 = N) := ⟨_, rfl⟩
      rw [HN.out] at hown4
      obtain ⟨ag, cg, rfl, hgot⟩ := got_of hown4
      have hNl : len ≤ N := by have := HN.out; omega
      have hN2 : N ≤ 2000 := by have := HN.out; have := cnt_le s 16; omega
      have hs4 := hb4.size
      have sl4 := sl3.below hb4 (by omega)
      have hB4 : Below w1.heap.size w1 w4 := (hbel.trans (hb3.mono hsz)).trans hb4
      have r4 : Rd w4 w1.heap.size a len xs := r1.below hB4
      have hB : Below w.heap.size w w4 := hb1.trans (hB4.mono (by omega))
      have hw4 : w.heap.size < w4.heap.size := by have := hB4.size; omega
      clear hown4 hown3 hgv sl3 hrec hb4 hb3 r1 hb1 hbel hsz
      go_wp2
      go_loop [46] (fun i => ∃ k : Nat, k ≤ len ∧ i = .int .i64 k) (fun i => len - (intOf i).toNat)
      case atStart => exact ⟨0, Nat.zero_le _, rfl⟩
      case round =>
        obtain ⟨k, hk, rfl⟩ := hrel
        by_cases hlt : k < len
        · obtain ⟨b, off, rfl, hbB, hc⟩ := r4.2 (by omega)
          have hck := hc k hlt
          obtain ⟨gb, rfl, hgb, hcells⟩ := hgot.2 (by omega)
          obtain ⟨p0, p1, p9⟩ := got_pre hcells hlt
          have hkN : (k : Int) < (N : Int) := by omega
          clear hc r4 sl4 hcells hgot
          go_wp2
          go_round
          case rel => exact ⟨k + 1, by omega, by go_num⟩
          case measure => simp [intOf]; omega
        · clear r4
          go_wp2
          go_loopw [12, 13] (fun c i wr => ∃ m q : Nat, m ≤ 16 ∧ Hid (q = len + cnt s m) ∧ i = .int .i64 m ∧ c = .int .i64 q ∧ Below w4.heap.size w4 wr) (fun _ i _ => 16 - (intOf i).toNat)
          case atStart => exact ⟨0, len, Nat.zero_le _, rfl, rfl, rfl, Below.refl _ _⟩
          case round =>
            obtain ⟨m, q, hm, HQ, rfl, rfl, hbel⟩ := hrel
            have hsz := hbel.size
            have hqb : q ≤ 2000 := by have := HQ.out; have := cnt_le s m; omega
            by_cases hmt : m < 16
            · have rs := rangeAt_below (sl4 m hmt) hbel (by omega)
              obtain ⟨o0, o1, o2, o3⟩ := hok m
              have HC : Hid (cnt s (m + 1) = if (s m).st % 4 = 0 then cnt s m else cnt s m + 1) := rfl
              have HP : Hid (¬ (s m).st % 4 = 0 → q < N ∧ ∃ gb, ag = some ⟨gb, 0, none⟩ ∧ gb < wr.heap.size ∧ wr.rangeAt gb (q * 13) (pdp m (s m))) := fun hst => by
                have h1 := cnt_mono s (m + 1) 16 (by omega)
                have h2 := HC.out
                rw [if_neg hst] at h2
                have h3 := HQ.out
                have h4 := HN.out
                obtain ⟨gb, e, hgb, hcells⟩ := hgot.2 (by omega)
                refine ⟨by omega, gb, e, by omega, ?_⟩
                rw [h3]
                exact rangeAt_below (got_act hcells hmt hst) hbel hgb
              obtain ⟨⟨st, ti, apn, ex⟩, HSK⟩ : ∃ x, Hid (s m = x) := ⟨_, rfl⟩
              rw [HSK.out] at rs o0 o1 o2 o3 HC HP
              simp only at o0 o1 o2 o3 HC HP
              have c0 : wr.cell? ⟨w.heap.size, m * 4, none⟩ = some (.int .u8 st) := rs 0 _ rfl
              have hmI : (m : Int) < 16 := by omega
              have hm0 : (0 : Int) ≤ (m : Int) := by omega
              clear sl4 hgot hok
              by_cases hst : st % 4 = 0
              · go_wp2
                go_roundw
                case rel => exact ⟨m + 1, q, by omega, by rw [HC.out, if_pos hst]; exact HQ.out, by go_num, rfl, hbel⟩
                case measure => simp [intOf]; omega
              · obtain ⟨hqN, gb, rfl, hgb, rp⟩ := HP.out hst
                have hps := PdpSlot.of rp rs
                have hbw : w.heap.size < wr.heap.size := by omega
                have hqI : (q : Int) < (N : Int) := by omega
                have hq0 : (0 : Int) ≤ (q : Int) := by omega
                go_wp2
                have HST : Hid (¬ st % 4 = 0) := hst
                clear hst
                go_region_held3 (fun w' => w'.cell? ⟨gb, q * 13, none⟩ = some (.int .u8 m) ∧ w'.cell? ⟨gb, q * 13 + 1, none⟩ = some (.int .u8 ti) ∧ w'.cell? ⟨gb, q * 13 + 2, none⟩ = some (.int .u8 (st % 4)) ∧ w'.cell? ⟨gb, q * 13 + 3, none⟩ = some (.int .u64 0) ∧ w'.cell? ⟨gb, q * 13 + 4, none⟩ = some (.int .u64 0) ∧ w'.cell? ⟨gb, q * 13 + 5, none⟩ = some (.pointer none) ∧ w'.cell? ⟨gb, q * 13 + 6, none⟩ = some (.int .u64 0) ∧ w'.cell? ⟨gb, q * 13 + 7, none⟩ = some (.int .u64 0) ∧ w'.cell? ⟨gb, q * 13 + 8, none⟩ = some (.pointer none) ∧ w'.cell? ⟨gb, q * 13 + 9, none⟩ = some (.string apn) ∧ w'.cell? ⟨gb, q * 13 + 10, none⟩ = some (.int .u8 0) ∧ w'.cell? ⟨gb, q * 13 + 11, none⟩ = some (.int .i64 0) ∧ w'.cell? ⟨gb, q * 13 + 12, none⟩ = some (.int .i64 ex) ∧ w'.cell? ⟨w.heap.size, m * 4, none⟩ = some (.int .u8 st) ∧ w'.cell? ⟨w.heap.size, m * 4 + 1, none⟩ = some (.int .u8 ti) ∧ w'.cell? ⟨w.heap.size, m * 4 + 2, none⟩ = some (.string apn) ∧ w'.cell? ⟨w.heap.size, m * 4 + 3, none⟩ = some (.int .i64 ex)) (first | exact hps | exact PdpSlot.below (w := wr.drew) hps hb5 hgb hbw) ((go_at_call 12; refine (eqslot_lit m st ti apn ex hmt o0 o1 o2 o3 _).mono ?_; rintro e w5 ⟨rfl, hb5⟩))
                go_wp2
                go_roundw
                case rel => exact ⟨m + 1, q + 1, by omega, by rw [HC.out, if_neg HST.out]; have := HQ.out; show _ = _; omega, by go_num, by go_num, hbel.drew.trans (hb5.mono hsz)⟩
                case measure => simp [intOf]; omega
            · obtain rfl : m = 16 := by omega
              obtain rfl : q = N := HQ.out.trans HN.out
              clear sl4 hgot hok
              go_wp2
              go_ret
              exact ⟨rfl, hB.trans (hbel.mono hB.size)⟩

end Go.Proofs.Ybulkaoqk
