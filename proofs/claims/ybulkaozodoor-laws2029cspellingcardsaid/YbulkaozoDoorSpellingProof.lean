/-
  'Rows.LawS2029CSpellingSaid' (the row) AND 'Rows.LawS2029CSpellingCardSaid' (the tied card): the frame after the guide's Mapy texts; the walk: YbulkaozoDoorLawWalk; the tie is given (YbulkaozoDoorTie).
-/
import Derived.Test.YbulkaozoDoorRows
import Derived.Test.YbulkaozoDoorTie
import Derived.Test.YbulkaozoDoorCards
import Derived.Test.YbulkaozoDoorLawWalk
import Derived.WalkKit
import Derived.ProofKit
import Derived.OpenShut
import Derived.ShutString
import Derived.ChangeOld
import Derived.Below
import Derived.LaidMore
import Derived.Stop.Joined
import Derived.SevenTiedAt
import Derived.Lib.SmallJoins
namespace Go.Proofs.YbulkaozoDoor.lawS2029CSpelling
open Go.ChangeShapes Go.WideShapes Go.ChangeAt Go.RowKit
open Go.ChangeMaps (open_string shut_string)
set_option linter.unusedVariables false

theorem own : ownKnob Ybad.prog.godebug = none := by kernel_rfl
theorem laidOut : laidOutB Ybad.prog = true := by kernel_rfl

/-! ### The listed table -/
/-- The variable's name, as the row lists it. -/
def nm : String := Rows.lawS2029CSpellingSpec.vars.headD ""
theorem gOps : Ybad.prog.globalNamed nm = some 0 := by kernel_rfl
theorem tOps : (Ybad.prog.globals[0]?).map (·.type) = some 44 := by kernel_rfl
theorem cells44 : Ybad.prog.cellsOf 44 = 84 := by kernel_rfl
theorem cells43 : Ybad.prog.cellsOf 43 = 4 := by kernel_rfl
theorem cells9 : Ybad.prog.cellsOf 9 = 1 := by kernel_rfl
theorem cells3 : Ybad.prog.cellsOf 3 = 1 := by kernel_rfl
theorem cells4 : Ybad.prog.cellsOf 4 = 1 := by kernel_rfl
theorem cells42 : Ybad.prog.cellsOf 42 = 1 := by kernel_rfl
/-- The rows of the datum that the row lists. -/
def rowsOf : DataW Unit → List (DataW Unit)
  | .agg l => l
  | _ => []
def rowsD : List (DataW Unit) := rowsOf Rows.laid_example_com_tallyline_tallyline_lang_binaryOps
theorem laid_is : Rows.lawS2029CSpellingRow.laid = [(nm, .agg rowsD)] := by kernel_rfl
/-- A row's first field, where it is a string. -/
def firstStr : DataW Unit → Option (List UInt8)
  | .agg (.lit (.string l) :: _) => some l
  | _ => Option.none
theorem rows_spell : rowsD.map firstStr = spellL.map some := by kernel_rfl

theorem heap_of_var {W : World} {n : String} {g : Nat} {cs : Array Value} (hg : Ybad.prog.globalNamed n = some g) (h : W.var? Ybad.prog n = some cs) : ∃ t fr, W.heap[g]? = some (.cells cs t fr) := by
  simp only [World.var?, hg, Option.bind_some] at h
  cases he : W.heap[g]? with
  | none => simp [he] at h
  | some o =>
    cases o with
    | cells c t fr =>
      simp [he] at h
      exact ⟨t, fr, by rw [h]⟩
    | _ => simp [he] at h

/-- WHAT THE CONDITION GIVES THE WALK. -/
theorem tab_of {W : World} (h : laidMetH Ybad.prog Rows.lawS2029CSpellingRow.laid W) : Tab W := by
  rw [MakeChecks.laidMetH_plain _ _ _ (by kernel_rfl), laid_is] at h
  obtain ⟨ps, ⟨g0, t0, cs0, f0, p0, q0, hg0, ht0, hv0, hd0, _, _⟩, _, _⟩ := h
  obtain rfl := Option.some.inj (gOps.symm.trans hg0)
  obtain rfl := Option.some.inj (tOps.symm.trans ht0)
  obtain ⟨t, fr, hheap⟩ := heap_of_var hg0 hv0
  obtain ⟨xs, m, rfl, hx, hlen, hn, hel⟩ := DataW.trod_array Ybad.underlying44 hd0
  simp only [Prod.mk.injEq, DataW.agg.injEq] at hx
  rw [cells44] at hlen
  refine ⟨cs0, t, fr, hheap, by simpa using hlen, fun k hk => ?_⟩
  have he := hel k hk
  rw [List.getElem?_eq_getElem (by omega), cells43] at he
  obtain ⟨y0, y1, y2, y3, n, hx4, hl4, e0, e1, e2, e3⟩ := Joins.trod_struct4 Ybad.underlying43 he
  rw [cells43] at hl4
  obtain ⟨c0, c1, c2, c3, hcs⟩ : ∃ c0 c1 c2 c3, (cs0.toList.drop (k * 4)).take 4 = [c0, c1, c2, c3] := by
    generalize (cs0.toList.drop (k * 4)).take 4 = L at hl4
    match L, hl4 with
    | [c0, c1, c2, c3], _ => exact ⟨c0, c1, c2, c3, rfl⟩
  rw [hcs] at e0 e1 e2 e3
  simp only [cells9, cells3, cells4, cells42] at e0 e1 e2 e3
  obtain ⟨s, q0', q0, _⟩ := DataW.trod_string Ybad.underlying9 e0
  obtain ⟨p, q1', _, _⟩ := DataW.trod_int Ybad.underlying3 e1
  obtain ⟨r, q2', _⟩ := DataW.trod_bool Ybad.underlying4 e2
  obtain ⟨c, q3', _, _⟩ := DataW.trod_int Ybad.underlying42 e3
  simp at q0' q1' q2' q3'
  subst q0' q1' q2' q3'
  refine ⟨s, p, r, c, ?_, ?_⟩
  · have hxk := congrArg (fun l => (l.map firstStr)[k]?) hx.1
    simp only [rows_spell] at hxk
    rw [List.getElem?_map, List.getElem?_map, List.getElem?_map, List.getElem?_eq_getElem (show k < xs.length by omega), Option.map_some, Option.map_some, hx4, q0] at hxk
    simp only [firstStr] at hxk
    rw [ByteArray.toList_eq]
    cases hk' : spellL[k]? with
    | none => rw [hk'] at hxk; cases hxk
    | some l => rw [hk'] at hxk; simpa using hxk
  · apply Array.ext'
    rw [Array.toList_extract]
    simpa [List.extract] using hcs

/-- The door's own heap meets the condition. -/
theorem door_met (os : Os) (args : Array Value) : laidMetH Ybad.prog Rows.lawS2029CSpellingRow.laid ((World.doorLaid Ybad.prog 400 os).forCall (fun _ _ => 0) ⟨#[], args, []⟩).memory :=
  laidMetH_of_parts3 (fuel := 8) (laidMet_of_run' 8 (by kernel_rfl) (by kernel_rfl)) (by kernel_rfl) (by kernel_rfl)

/-! ### THE ROW's STEP -/
set_option maxRecDepth 100000 in
theorem lifted (os : Os) (started : os.Started) (H : Type) (enc : TypeId × Value → H) :
    ReturnsInHanded {} Ybad.checked os 3 .any (fun w args => (Rows.lawS2029CSpellingSpec.pre enc Ybad.prog Ybad.f3 [] false w args ∧ laidMetH Ybad.prog Rows.lawS2029CSpellingRow.laid w) ∧ sizedMet enc Ybad.prog Ybad.f3 (OpenSpec.ofChange Rows.lawS2029CSpellingSpec) false w args)
      (Rows.lawS2029CSpellingSpec.post enc Ybad.prog Ybad.f3 false true false false) := by
  refine returnsInHanded_of_change_and (C := Ybad.checked) (X := fun w _ => laidMetH Ybad.prog Rows.lawS2029CSpellingRow.laid w) (fun _ _ _ hh h => h.of_heap hh) own started (by kernel_rfl) Ybad.func3
    (ChangeSpec.witness_shaped (enc := enc) (C := Ybad.checked) (os := os) (X := fun w _ => laidMetH Ybad.prog Rows.lawS2029CSpellingRow.laid w) false (World.doorLaid Ybad.prog 400 os) #[.int .u8 0, .int .i64 0, .int .u8 0, .int .u8 0, .string ByteArray.empty] 8 rfl (World.shaped_of_RefB (by kernel_rfl) (by kernel_rfl)) (by kernel_rfl) (by kernel_rfl) (by kernel_rfl) (door_met os _)) ?_
  intro W base args ds gs before hval0 hW _ _ hL _
  have hval : ∀ (j : Nat) t v, Ybad.f3.params[j]? = some t → args[j]? = some v → Value.okWide Ybad.prog W .any base t v := hval0
  have hW' := hW
  obtain ⟨p, q, hA0, hV, rfl, hfz, hnd⟩ := hW
  have hA : DataW.TrodAll enc Ybad.prog W 0 (fun _ => true) true Ybad.f3.params.toList args.toList ds p := hA0
  rw [Ybad.params3] at hA hval
  obtain ⟨v0, vs0, d0, ds0, p0, q0, hargs, rfl, rfl, h0, r0⟩ := trodAll_cons hA
  obtain ⟨v1, vs1, d1, ds1, p1, q1, rfl, rfl, rfl, h1, r1⟩ := trodAll_cons r0
  obtain ⟨v2, vs2, d2, ds2, p2, q2, rfl, rfl, rfl, h2, r2⟩ := trodAll_cons r1
  obtain ⟨v3, vs3, d3, ds3, p3, q3, rfl, rfl, rfl, h3, r3⟩ := trodAll_cons r2
  obtain ⟨v4, vs4, d4, ds4, p4, q4, rfl, rfl, rfl, h4, r4⟩ := trodAll_cons r3
  obtain ⟨rfl, rfl, rfl⟩ := trodAll_nil r4
  obtain rfl : args = #[v0, v1, v2, v3, v4] := by cases args; simp_all
  obtain ⟨g, tg, cg, fg, dg, pg, rfl, hg, htg, hvg, hdg, rfl⟩ := trodVars_one (n := nm) hV
  obtain rfl := Option.some.inj (gOps.symm.trans hg)
  obtain rfl := Option.some.inj (tOps.symm.trans htg)
  have ltg : ∀ x ∈ pg, x.block < W.heap.size := DataW.trod_lt fg _ _ _ hdg
  obtain ⟨a0, rfl, rfl, rfl, w0⟩ := open_int Ybad.underlying5 (hval 0 5 v0 rfl rfl) h0
  obtain ⟨a1, rfl, rfl, rfl, w1⟩ := open_int Ybad.underlying3 (hval 1 3 v1 rfl rfl) h1
  obtain ⟨a2, rfl, rfl, rfl, w2⟩ := open_int Ybad.underlying5 (hval 2 5 v2 rfl rfl) h2
  obtain ⟨a3, rfl, rfl, rfl, w3⟩ := open_int Ybad.underlying5 (hval 3 5 v3 rfl rfl) h3
  obtain ⟨a4, rfl, rfl, rfl, w4⟩ := open_string Ybad.underlying9 (hval 4 9 v4 rfl rfl) h4
  have hT : Tab W := tab_of hL
  have h0W : 0 < W.heap.size := by
    obtain ⟨cs, t, fr, hh, _⟩ := hT
    exact (Array.getElem?_eq_some_iff.1 hh).1
  have b0 := bounds_u8 w0
  have b2 := bounds_u8 w2
  have b3 := bounds_u8 w3
  clear hA0 hval0
  refine (law_walk a0 a1 a2 a3 a4 b0.1 b0.2 b2.1 b2.2 b3.1 b3.2 W hT h0W).mono fun e W' ⟨he, bel⟩ => ?_
  subst he
  obtain ⟨fg', hdg'⟩ : DataW.Trod enc Ybad.prog W' 0 (fun b => decide (b < W.heap.size)) true 44 (.agg cg) dg pg := Below.trod laidOut (by kernel_rfl) (of_decide_eq_true (by kernel_rfl)) ⟨fg, hdg⟩ bel ltg
  exact ⟨_, rfl, _, _, _, [], _, _, hW', trodAll_mk1 (shut_bool Ybad.underlying4 _),
    (trodAll_cons_mk (shut_int Ybad.underlying5 w0) (trodAll_cons_mk (shut_int Ybad.underlying3 w1) (trodAll_cons_mk (shut_int Ybad.underlying5 w2) (trodAll_cons_mk (shut_int Ybad.underlying5 w3) (trodAll_cons_mk (shut_string Ybad.underlying9 w4) trodAll_mk0))))),
    trodVars_mk1 (n := nm) gOps tOps (var?_below bel gOps h0W hvg) hdg', bel.frame _, fun h => by cases h⟩

theorem over : Rows.LawS2029CSpellingSaid :=
  OpenClaim.holds_of_wide 3 Ybad.f3 rfl rfl rfl rfl rfl rfl rfl ⟨rfl, rfl, rfl, rfl, rfl⟩ rfl rfl rfl rfl rfl (by kernel_rfl) Ybad.func3 (by kernel_rfl)
    (of_decide_eq_true (by kernel_rfl)) (by unfold Func.isWrapper; first | (rw [if_pos (by decide +kernel)]; kernel_rfl) | (rw [if_neg (by decide +kernel)]; exact ⟨rfl, rfl⟩))
    (fun os started H enc _ => lifted os started H enc)

/-- ████ THE STATEMENT: THE TIED CARD ████ -/
theorem proved : Rows.LawS2029CSpellingCardSaid :=
  Claim7.holds_tied_plain_at .later [] [.wider] true (true, "6f1f92fe28faedacf4094ac3c5a64c025ac255186301106191e705d9cbf02fc7") false
    over (fun _ h => by cases h) (by kernel_rfl) (fun _ h => by cases h) lawS2029CSpelling_row_tie rfl ⟨rfl, rfl⟩ (by kernel_rfl) rfl
    (fun f fn hf hfn => by
      obtain rfl : f = 3 := Option.some.inj ((show Ybad.prog.funcNamed Rows.lawS2029CSpellingRow.func = some 3 by kernel_rfl).symm.trans hf) |>.symm
      obtain rfl : fn = Ybad.f3 := (Option.some.inj (Ybad.func3.symm.trans hfn)).symm
      exact ⟨by kernel_rfl, fun j t ht => by
        rw [Ybad.params3] at ht
        have hm : t ∈ [5, 3, 5, 5, 9] := by simpa using Array.mem_of_getElem? ht
        have hall : ([5, 3, 5, 5, 9].all fun u => !Ybad.prog.wantsStandIn u) = true := by kernel_rfl
        exact (show Ybad.prog.wantsStandIn t = false by simpa using List.all_eq_true.1 hall t hm)⟩)
    (by kernel_rfl)
end Go.Proofs.YbulkaozoDoor.lawS2029CSpelling
