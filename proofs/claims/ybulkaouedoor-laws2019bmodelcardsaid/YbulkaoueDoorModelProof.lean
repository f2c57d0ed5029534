/-
  'Rows.LawS2019BModelSaid' (the row) AND 'Rows.LawS2019BModelCardSaid' (the tied card): the frame after the guide's Mapy texts; the walk's long way: YbulkaoueDoorModelWalk; the tie is given (YbulkaoueDoorTie).
-/
import Derived.Test.YbulkaoueDoorRows
import Derived.Test.YbulkaoueDoorTie
import Derived.Test.YbulkaoueDoorCards
import Derived.Test.YbulkaoueDoorModelWalk
import Derived.WalkKit
import Derived.ProofKit
import Derived.OpenShut
import Derived.ShutString
import Derived.ChangeOld
import Derived.Below
import Derived.LaidMore
import Derived.Stop.Joined
import Derived.SevenTiedAt
namespace Go.Proofs.YbulkaoueDoor.lawS2019BModel
open Go.ChangeShapes Go.WideShapes Go.ChangeAt Go.RowKit
open Go.ChangeMaps (open_string shut_string)
set_option linter.unusedVariables false

theorem own : ownKnob Ybad.prog.godebug = none := by kernel_rfl
theorem laidOut : laidOutB Ybad.prog = true := by kernel_rfl

/-! ### The listed table -/
/-- The variable's name, as the row lists it. -/
def nm : String := Rows.lawS2019BModelSpec.vars.headD ""
theorem gEnt : Ybad.prog.globalNamed nm = some 0 := by kernel_rfl
theorem tEnt : (Ybad.prog.globals[0]?).map (·.type) = some 29 := by kernel_rfl
theorem cells29 : Ybad.prog.cellsOf 29 = 256 := by kernel_rfl
theorem cells9 : Ybad.prog.cellsOf 9 = 1 := by kernel_rfl
/-- The datum that the row lists is the table of entities. -/
theorem laid_is : Rows.lawS2019BModelRow.laid = [(nm, .agg ((List.range 256).map fun (i : Nat) => .lit (.string (ent (i : Int)).data.toList)))] := by kernel_rfl

theorem bytes_of {a b : ByteArray} (h : a.data.toList = b.data.toList) : a = b := Go.WideShapes.bytes_inj h

/-- WHAT THE CONDITION GIVES THE WALK. -/
theorem tab_of {W : World} (h : laidMetH Ybad.prog Rows.lawS2019BModelRow.laid W) : Tab W := by
  rw [MakeChecks.laidMetH_plain _ _ _ (by kernel_rfl), laid_is] at h
  obtain ⟨ps, ⟨g0, t0, cs0, f0, p0, q0, hg0, ht0, hv0, hd0, _, _⟩, _, _⟩ := h
  obtain rfl := Option.some.inj (gEnt.symm.trans hg0)
  obtain rfl := Option.some.inj (tEnt.symm.trans ht0)
  obtain ⟨xs, m, rfl, hx, hlen, hn, hel⟩ := DataW.trod_array Ybad.underlying29 hd0
  simp only [Prod.mk.injEq, DataW.agg.injEq] at hx
  intro c hc
  have he := hel c hc
  rw [List.getElem?_eq_getElem (by omega), cells9] at he
  obtain ⟨s, e1, e2, _⟩ := DataW.trod_string Ybad.underlying9 he
  have hxc := congrArg (fun l => l[c]?) hx.1
  simp only [List.getElem?_map, List.getElem?_eq_getElem (show c < xs.length by omega), Option.map_some, e2] at hxc
  rw [List.getElem?_range hc] at hxc
  simp only [Option.map_some, Option.some.injEq, DataW.lit.injEq, Lit.string.injEq] at hxc
  have hs : s = ent (c : Int) := bytes_of hxc.symm
  have hcell := World.var?_cell hg0 hv0 c
  rw [hcell, ← hs]
  have e3 := congrArg (fun l => l[0]?) e1
  simpa [List.getElem?_take, List.getElem?_drop] using e3

/-- The door's own heap meets the condition. -/
theorem door_met (os : Os) (args : Array Value) : laidMetH Ybad.prog Rows.lawS2019BModelRow.laid ((World.doorLaid Ybad.prog 400 os).forCall (fun _ _ => 0) ⟨#[], args, []⟩).memory :=
  laidMetH_of_parts3 (fuel := 8) (laidMet_of_run' 8 (by kernel_rfl) (by kernel_rfl)) (by kernel_rfl) (by kernel_rfl)

/-- WHAT THE WALK IS TOLD OF A SLICE OF INTEGERS THAT CAME IN: it is nil; or it leads to a row of 'cap' cells, the numbers 'zs' (the first 'len' are its elements, the rest its spare room), each fitting its kind. -/
def IsRow (k : IntKind) (w : World) (a : Option Addr) (len cap : Nat) (zs : List Int) : Prop :=
  (a = none ∧ len = 0 ∧ cap = 0 ∧ zs = []) ∨
  ∃ x, a = some x ∧ len ≤ cap ∧ cap ≤ maxLen ∧ zs.length = cap ∧ (∀ i, i < zs.length → w.cell? (x.add i) = some (.int k (zs.getD i 0))) ∧ ∀ n ∈ zs, (Lit.int k n).wf = true

/-- A row that came in, as the contracts read it. -/
theorem rd_of {w : World} {a : Option Addr} {len cap : Nat} {zs : List Int} (h : IsRow .u8 w a len cap zs) : Rd w w.heap.size a len (zs.take len) ∧ (a = none → len = 0 ∧ cap = 0) := by
  rcases h with ⟨rfl, rfl, rfl, rfl⟩ | ⟨x, rfl, hl, hm, hz, hc, hw⟩
  · exact ⟨⟨rfl, fun h => absurd h (by omega)⟩, fun _ => ⟨rfl, rfl⟩⟩
  · refine ⟨⟨by simp; omega, fun hp => ?_⟩, fun e => by cases e⟩
    obtain ⟨b, off, rfl, hc'⟩ := ints_at hc (by omega)
    refine ⟨b, off, rfl, World.block_lt_of_cell? w _ (hc' 0 (by omega)), fun i hi => ?_⟩
    rw [hc' i (by omega)]
    simp [List.getD, hi]

theorem walk (a0 : Option Addr) (len0 cap0 : Nat) (z0 : List Int) (a1 : ByteArray) (w : World) (hT : Tab w) (w0 : IsRow .u8 w a0 len0 cap0 z0) :
    Calls Ybad.prog 3 #[.slice a0 len0 cap0, .string a1] w fun e w' => e = .returned (.bool true) ∧ Below w.heap.size w w' := by
  by_cases g0 : len0 ≤ 4096
  · by_cases g1 : a1.size ≤ 4096
    · have h0 : 0 < w.heap.size := World.block_lt_of_cell? w _ (hT 0 (by decide))
      exact model_in a0 len0 cap0 _ a1 w hT h0 (rd_of w0).1 (rd_of w0).2 g0 g1
    · clear w0 hT
      go_enter Ybad.func3, Ybad.ntmps3
      go_wp2
      go_ret
      exact ⟨rfl, Below.refl _ _⟩
  · clear w0 hT
    go_enter Ybad.func3, Ybad.ntmps3
    go_wp2
    go_ret
    exact ⟨rfl, Below.refl _ _⟩

/-! ### THE ROW's STEP -/
set_option maxRecDepth 100000 in
theorem lifted (os : Os) (started : os.Started) (H : Type) (enc : TypeId × Value → H) :
    ReturnsInHanded {} Ybad.checked os 3 .any (fun w args => (Rows.lawS2019BModelSpec.pre enc Ybad.prog Ybad.f3 [] false w args ∧ laidMetH Ybad.prog Rows.lawS2019BModelRow.laid w) ∧ sizedMet enc Ybad.prog Ybad.f3 (OpenSpec.ofChange Rows.lawS2019BModelSpec) false w args)
      (Rows.lawS2019BModelSpec.post enc Ybad.prog Ybad.f3 false true false false) := by
  refine returnsInHanded_of_change_and (C := Ybad.checked) (X := fun w _ => laidMetH Ybad.prog Rows.lawS2019BModelRow.laid w) (fun _ _ _ hh h => h.of_heap hh) own started (by kernel_rfl) Ybad.func3
    (ChangeSpec.witness_shaped (enc := enc) (C := Ybad.checked) (os := os) (X := fun w _ => laidMetH Ybad.prog Rows.lawS2019BModelRow.laid w) false (World.doorLaid Ybad.prog 400 os) #[.slice none 0 0, .string ByteArray.empty] 8 rfl (World.shaped_of_RefB (by kernel_rfl) (by kernel_rfl)) (by kernel_rfl) (by kernel_rfl) (by kernel_rfl) (door_met os _)) ?_
  intro W base args ds gs before hval0 hW _ _ hL _
  have hval : ∀ (j : Nat) t v, Ybad.f3.params[j]? = some t → args[j]? = some v → Value.okWide Ybad.prog W .any base t v := hval0
  have hW' := hW
  obtain ⟨p, q, hA0, hV, rfl, hfz, hnd⟩ := hW
  have hA : DataW.TrodAll enc Ybad.prog W 0 (fun _ => true) true Ybad.f3.params.toList args.toList ds p := hA0
  rw [Ybad.params3] at hA hval
  obtain ⟨v0, vs0, d0, ds0, p0, q0, hargs, rfl, rfl, h0, r0⟩ := trodAll_cons hA
  obtain ⟨v1, vs1, d1, ds1, p1, q1, rfl, rfl, rfl, h1, r1⟩ := trodAll_cons r0
  obtain ⟨rfl, rfl, rfl⟩ := trodAll_nil r1
  obtain rfl : args = #[v0, v1] := by cases args; simp_all
  obtain ⟨g, tg, cg, fg, dg, pg, rfl, hg, htg, hvg, hdg, rfl⟩ := trodVars_one (n := nm) hV
  obtain rfl := Option.some.inj (gEnt.symm.trans hg)
  obtain rfl := Option.some.inj (tEnt.symm.trans htg)
  have ltg : ∀ x ∈ pg, x.block < W.heap.size := DataW.trod_lt fg _ _ _ hdg
  obtain ⟨a0, len0, cap0, rfl⟩ := okWide_slice Ybad.underlying22 (hval 0 22 v0 rfl rfl)
  have k0 := h0
  have lt0 : ∀ x ∈ p0, x.block < W.heap.size := by obtain ⟨m, hm⟩ := k0; exact DataW.trod_lt m _ _ _ hm
  obtain ⟨z0, w0⟩ : ∃ zs, IsRow .u8 W a0 len0 cap0 zs := by
    obtain ⟨fuel, hf⟩ := h0
    rcases open_ints Ybad.underlying22 Ybad.underlying5 (by kernel_rfl) hf with ⟨hcs, _⟩ | ⟨x, l, c, zs, hcs, _, hl, hm, hz, _, hcell, hwz⟩
    · simp [Value.cells] at hcs
      obtain ⟨rfl, rfl, rfl⟩ := hcs
      exact ⟨[], .inl ⟨rfl, rfl, rfl, rfl⟩⟩
    · simp [Value.cells] at hcs
      obtain ⟨rfl, rfl, rfl⟩ := hcs
      exact ⟨zs, .inr ⟨_, rfl, hl, hm, by simpa using hz, hcell, hwz⟩⟩
  obtain ⟨a1, rfl, rfl, rfl, w1⟩ := open_string Ybad.underlying9 (hval 1 9 v1 rfl rfl) h1
  have hT : Tab W := tab_of hL
  have h0W : 0 < W.heap.size := World.block_lt_of_cell? W _ (hT 0 (by decide))
  clear hA0 hval0
  refine (walk a0 len0 cap0 z0 a1 W hT w0).mono fun e W' ⟨he, bel⟩ => ?_
  subst he
  obtain ⟨fg', hdg'⟩ : DataW.Trod enc Ybad.prog W' 0 (fun b => decide (b < W.heap.size)) true 29 (.agg cg) dg pg := Below.trod laidOut (by kernel_rfl) (of_decide_eq_true (by kernel_rfl)) ⟨fg, hdg⟩ bel ltg
  exact ⟨_, rfl, _, _, _, [], _, _, hW', trodAll_mk1 (shut_bool Ybad.underlying4 _), (trodAll_cons_mk (Below.trod laidOut (by kernel_rfl) (of_decide_eq_true (by kernel_rfl)) k0 bel lt0) (trodAll_cons_mk (shut_string Ybad.underlying9 w1) trodAll_mk0)),
    trodVars_mk1 (n := nm) gEnt tEnt (var?_below bel gEnt h0W hvg) hdg', bel.frame _, fun h => by cases h⟩

theorem over : Rows.LawS2019BModelSaid :=
  OpenClaim.holds_of_wide 3 Ybad.f3 rfl rfl rfl rfl rfl rfl rfl ⟨rfl, rfl, rfl, rfl, rfl⟩ rfl rfl rfl rfl rfl (by kernel_rfl) Ybad.func3 (by kernel_rfl)
    (of_decide_eq_true (by kernel_rfl)) (by unfold Func.isWrapper; first | (rw [if_pos (by decide +kernel)]; kernel_rfl) | (rw [if_neg (by decide +kernel)]; exact ⟨rfl, rfl⟩))
    (fun os started H enc _ => lifted os started H enc)

/-- ████ THE STATEMENT: THE TIED CARD ████ -/
theorem proved : Rows.LawS2019BModelCardSaid :=
  Claim7.holds_tied_plain_at .later [] [.data] true (true, "9e32a4f44bb0d354246e7b5448603b5f2c2adbd95f4be8f086a7a1d3bc0b5140") false
    over (fun _ h => by cases h) (by kernel_rfl) (fun _ h => by cases h) lawS2019BModel_row_tie rfl ⟨rfl, rfl⟩ (by kernel_rfl) rfl
    (fun f fn hf hfn => by
      obtain rfl : f = 3 := Option.some.inj ((show Ybad.prog.funcNamed Rows.lawS2019BModelRow.func = some 3 by kernel_rfl).symm.trans hf) |>.symm
      obtain rfl : fn = Ybad.f3 := (Option.some.inj (Ybad.func3.symm.trans hfn)).symm
      exact ⟨by kernel_rfl, fun j t ht => by
        rw [Ybad.params3] at ht
        have hm : t ∈ [22, 9] := by simpa using Array.mem_of_getElem? ht
        have hall : ([22, 9].all fun u => !Ybad.prog.wantsStandIn u) = true := by kernel_rfl
        exact (show Ybad.prog.wantsStandIn t = false by simpa using List.all_eq_true.1 hall t hm)⟩)
    (by kernel_rfl)
end Go.Proofs.YbulkaoueDoor.lawS2019BModel
