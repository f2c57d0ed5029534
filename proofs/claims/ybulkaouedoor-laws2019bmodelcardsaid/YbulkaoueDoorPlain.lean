/-
  LAWS OF NO PROGRAM for the walks of this seat: what a slice of bytes yields when it is read ('Rd'), an append whose source may be nil ('wpList_append_any'), what a call owns read as bytes.
-/
import Derived.WalkKit
import Derived.WalkSpells
import Derived.Laws.CopyOwn
import Derived.Laws.AppendOwnNone
import Derived.Lib.AppendStr
namespace Go.Proofs.YbulkaoueDoor
open Go.RowKit

/-- Numbers as cells of kind u8: a name of its own, so that the walk leaves it standing. -/
def bs (xs : List Int) : List Value := xs.map (Value.int .u8)
theorem bs_length (xs : List Int) : (bs xs).length = xs.length := by simp [bs]
theorem bs_append (xs ys : List Int) : bs (xs ++ ys) = bs xs ++ bs ys := by simp [bs]
theorem bs_one (xs : List Int) : ∀ u ∈ bs xs, u.oneCell' = true := by
  intro u hu
  obtain ⟨_, _, rfl⟩ := List.mem_map.1 hu
  rfl
theorem bs_get (xs : List Int) (j : Nat) (u : Value) (h : (bs xs)[j]? = some u) : j < xs.length ∧ u = .int .u8 (xs.getD j 0) := by
  have hj : j < xs.length := by
    have := (List.getElem?_eq_some_iff.1 h).1
    simpa [bs] using this
  refine ⟨hj, ?_⟩
  simp [bs, hj] at h
  simp [List.getD, hj, h]

/-- A string's bytes as numbers. -/
def sb (s : ByteArray) : List Int := s.data.toList.map fun b => (b.toNat : Int)
theorem sb_length (s : ByteArray) : (sb s).length = s.size := by
  simp [sb]
theorem bs_sb (s : ByteArray) : bs (sb s) = Lib.strCells s := by
  simp [bs, sb, Lib.strCells]

/-- WHAT A SLICE OF BYTES YIELDS WHEN IT IS READ: 'len' numbers, in memory below block B. -/
def Rd (w : World) (B : Nat) (a : Option Addr) (len : Nat) (xs : List Int) : Prop :=
  xs.length = len ∧ (0 < len → ∃ b off, a = some ⟨b, off, none⟩ ∧ b < B ∧ ∀ i, i < len → w.cell? ⟨b, off + i, none⟩ = some (.int .u8 (xs.getD i 0)))

theorem Rd.below {w w' : World} {B : Nat} {a : Option Addr} {len : Nat} {xs : List Int} (h : Rd w B a len xs) (hb : Below B w w') : Rd w' B a len xs := by
  refine ⟨h.1, fun hp => ?_⟩
  obtain ⟨b, off, ha, hB, hc⟩ := h.2 hp
  exact ⟨b, off, ha, hB, fun i hi => (hb.cell (p := ⟨b, off + i, none⟩) hB).trans (hc i hi)⟩

theorem Rd.mono {w : World} {B B' : Nat} {a : Option Addr} {len : Nat} {xs : List Int} (h : Rd w B a len xs) (hB : B ≤ B') : Rd w B' a len xs := by
  refine ⟨h.1, fun hp => ?_⟩
  obtain ⟨b, off, ha, hb, hc⟩ := h.2 hp
  exact ⟨b, off, ha, by omega, hc⟩

theorem Rd.news {w : World} {B : Nat} {a : Option Addr} {len : Nat} {xs : List Int} (h : Rd w B a len xs) : ∀ ad, a = some ad → ∀ j u, (bs xs)[j]? = some u → w.cell? (ad.add j) = some u := by
  intro ad had j u hu
  obtain ⟨hj, rfl⟩ := bs_get xs j u hu
  obtain ⟨b, off, ha, _, hc⟩ := h.2 (by have := h.1; omega)
  rw [had] at ha
  obtain rfl := Option.some.inj ha
  rw [Addr.add_lit]
  exact hc j (by have := h.1; omega)

/-- What a call owns, read. -/
theorem Rd.ofOwns {w : World} {base n : Nat} {v : Value} {xs : List Int} (h : w.ownsRow base 5 1 v n (bs xs)) : ∃ a cap, v = .slice a n cap ∧ n ≤ cap ∧ cap ≤ maxLen ∧ Rd w w.heap.size a n xs ∧ (a = none → n = 0 ∧ cap = 0) := by
  have hl : xs.length = n := by have := h.1; rw [bs_length] at this; omega
  rcases h.2 with ⟨rfl, rfl⟩ | ⟨g, cap, cur, rfl, hb, hg, hnc, hcm, hcs, htake⟩
  · exact ⟨none, 0, rfl, Nat.le_refl _, Nat.zero_le _, ⟨hl, fun hp => absurd hp (by omega)⟩, fun _ => ⟨rfl, rfl⟩⟩
  · refine ⟨some ⟨g, 0, none⟩, cap, rfl, hnc, hcm, ⟨hl, fun hp => ⟨g, 0, rfl, (Array.getElem?_eq_some_iff.1 hg).1, fun i hi => ?_⟩⟩, fun e => by cases e⟩
    have hc := h.cells (g := g) rfl i (.int .u8 (xs.getD i 0)) (by simp [bs, List.getD, show i < xs.length by omega])
    rw [Addr.add_lit] at hc
    exact hc

/-- 'append(buf, xs...)', buf THE CALL's OWN, xs WHATEVER: nil, empty or not: the two laws in one. -/
theorem wpList_append_any {P : Program} {w : World} {ops : Array Oper} {rest : List Oper} {o : Oper} {a : Act} {Q : Exit → Act → World → Prop} (hgd : o.guard = none) (s x : Operand) (t : TypeId)
    (ho : o.op = .call { callee := .builtin .append, args := #[s, x], argTypes := #[t, t] })
    (base : Nat) (e : TypeId) (i : TypeInfo) (z : Value) (size bytes : Nat) (ht : P.underlying t = some (.slice e)) (hi : P.info? e = some i) (hz : i.zero = some z)
    (hsize : i.size = size) (hby : i.bytes = bytes) (hzs : z.cells.size = size) (hsz : 0 < size)
    (v : Value) (n : Nat) (xs : List Value) (hs : a.eval s = v) (hown : w.ownsRow base e size v n xs)
    (ao : Option Addr) (m c : Nat) (news : List Value) (hx : a.eval x = .slice ao m c) (hl : news.length = m * size) (hnone : ao = none → m = 0 ∧ c = 0)
    (hnews : ∀ ad, ao = some ad → ∀ j u, news[j]? = some u → w.cell? (ad.add j) = some u) (h1 : ∀ u ∈ news, u.oneCell' = true)
    (h63 : n + m ≤ maxLen) (hbytes : (n + m) * bytes ≤ 140737488355328) (hbase : base ≤ w.heap.size)
    (h : ∀ v' w', w'.ownsRow base e size v' (n + m) (xs ++ news) → w.grownBy w' v.ownBlock → wpList P ops Q rest (a.put o.dst v') w') : wpList P ops Q (o :: rest) a w := by
  cases ao with
  | none =>
    obtain ⟨rfl, rfl⟩ := hnone rfl
    have hn : news = [] := List.eq_nil_of_length_eq_zero (by simpa using hl)
    subst hn
    refine wpList_append_own_none hgd s x t ho base e i size ht hi v n xs hs hown hx ?_
    exact h v w (by simpa using hown) (World.grownBy.refl _ _)
  | some ad =>
    exact wpList_append_own w hgd s x t ho base e i z size bytes ht hi hz hsize hby hzs hsz v n xs hs hown ad m c news hx hl (hnews ad rfl) h1 h63 hbytes hbase (fun v' w' h2 h3 _ => h v' w' h2 h3)

/-- A row that is owned whole: the block itself, and back. -/
theorem owns_full {w : World} {base e g n : Nat} {xs : List Value} (h : w.ownsRow base e 1 (.slice (some ⟨g, 0, none⟩) n n) n xs) : w.heap[g]? = some (.cells xs.toArray e (0, 0)) := by
  rcases h.2 with ⟨hv, _⟩ | ⟨g', cap, cur, hv, hb, hg, hnc, hcm, hcs, htake⟩
  · cases hv
  · simp only [Value.slice.injEq, Option.some.injEq, Addr.mk.injEq, and_true, true_and] at hv
    obtain ⟨rfl, rfl⟩ := hv
    rw [hg]
    have : cur.toList = xs := by
      rw [← htake]
      exact (List.take_of_length_le (by simp; omega)).symm
    rw [← this]
theorem owns_of_block {w : World} {base e g n : Nat} {xs : List Value} (hg : w.heap[g]? = some (.cells xs.toArray e (0, 0))) (hb : base ≤ g) (hl : xs.length = n) (hm : n ≤ maxLen) : w.ownsRow base e 1 (.slice (some ⟨g, 0, none⟩) n n) n xs :=
  ⟨by omega, .inr ⟨g, n, xs.toArray, rfl, hb, hg, Nat.le_refl _, hm, by simp; omega, List.take_of_length_le (by simp; omega)⟩⟩

/-- One byte behind a new block of its own: the side goal of 'append(out, x)'. -/
theorem one_new (w : World) (x : Int) (e : TypeId) : ∀ j u, (bs [x])[j]? = some u → (w.alloc (.cells #[.int .u8 x] e)).cell? ((⟨w.heap.size, 0, none⟩ : Addr).add j) = some u := by
  intro j u hu
  match j, hu with
  | 0, hu => simp [bs] at hu; subst hu; simp [Addr.add]

/-- The counter's and the bytes' own steps. -/
theorem take_snoc (xs : List Int) (k : Nat) (h : k < xs.length) : xs.take (k + 1) = xs.take k ++ [xs.getD k 0] := by
  rw [List.take_succ_eq_append_getElem h]
  simp [List.getD, h]

end Go.Proofs.YbulkaoueDoor
