/- LawS3047AKind: the row and the card. -/
import Derived.Test.YbulkbkbsDoorRows
import Derived.Test.YbulkbkbsDoorKind
import Derived.Test.YbulkbkbsDoorTie
import Derived.Test.YbulkbkbsDoorCards
import Derived.ProofKit
import Derived.ChangeVars
import Derived.LaidLaws
import Derived.LaidMore
import Derived.OpenShut
import Derived.Carry
import Derived.WalkSmall
import Derived.Deep.Strs
import Derived.SevenTiedAt
import Derived.Stop.Joined
namespace Go.Proofs.YbulkbkbsDoor
open Go.ChangeShapes Go.WideShapes Go.ChangeAt Go.RowKit Go.Deep
set_option linter.unusedVariables false

/-- The listed variable's name, off the given row. -/
abbrev tabVar : String := Rows.lawS3047AKindSpec.vars.headD default
abbrev laid1 : List (String × DataW Unit) := Rows.lawS3047AKindRow.laid
def partsOf : DataW Unit → List (DataW Unit)
  | .agg l => l
  | _ => []
abbrev tabD : List (DataW Unit) := partsOf Rows.laid_example_com_indexwright_indexwright_dataTypes

theorem own : ownKnob Ybad.prog.godebug = none := by kernel_rfl
theorem laidOut : laidOutB Ybad.prog = true := by kernel_rfl
theorem gTab : Ybad.prog.globalNamed tabVar = some 0 := by kernel_rfl
theorem tTab : (Ybad.prog.globals[0]?).map (·.type) = some 42 := by kernel_rfl
theorem cells41 : Ybad.prog.cellsOf 41 = 3 := by kernel_rfl
theorem cells39 : Ybad.prog.cellsOf 39 = 1 := by kernel_rfl

theorem door_met (os : Os) (args : Array Value) : laidMetH Ybad.prog laid1 ((World.doorLaid Ybad.prog 19 os).forCall (fun _ _ => 0) ⟨#[], args, []⟩).memory :=
  laidMetH_of_parts3 (fuel := 8) (laidMet_of_run' 8 (by kernel_rfl) (by kernel_rfl)) (by kernel_rfl) (by kernel_rfl)

theorem mid_cell (cs : List Value) (n : Nat) (v : Value) (h : List.take 1 (List.drop 1 (List.take 3 (List.drop (n * 3) cs))) = [v]) : cs[n * 3 + 1]? = some v := by
  have : (List.take 1 (List.drop 1 (List.take 3 (List.drop (n * 3) cs))))[0]? = some v := by rw [h]; rfl
  simpa [List.getElem?_take, List.getElem?_drop] using this

/-- What the condition gives the walks: the kind of each type. -/
theorem kinds_of_laid {W : World} (h : laidMetH Ybad.prog laid1 W) (n : Nat) (hn : n < 6) : ∃ (k : Int) (a b : DataW Unit), tabD[n]? = some (.agg [a, .lit (.int .i64 k), b]) ∧ W.cell? ⟨0, n * 3 + 1, none⟩ = some (.int .i64 k) := by
  rw [MakeChecks.laidMetH_plain _ _ _ (by kernel_rfl)] at h
  obtain ⟨ps, ⟨g0, t0, cs0, f0, p0, q0, hg0, ht0, hv0, hd0, _, _⟩, _, _⟩ := h
  obtain rfl := Option.some.inj (gTab.symm.trans hg0)
  obtain rfl := Option.some.inj (tTab.symm.trans ht0)
  obtain ⟨xs, m, rfl, hx, hlen, hn6, hel⟩ := DataW.trod_array Ybad.underlying42 hd0
  have h1 := hel n hn
  rw [cells41] at h1
  have hxn : n < xs.length := by omega
  rw [List.getElem?_eq_getElem hxn] at h1
  obtain ⟨y0, y1, y2, m1, hy, _, _, hk, _⟩ := trod_struct3 Ybad.underlying41 h1
  obtain ⟨k, e1, e2, _⟩ := DataW.trod_int Ybad.underlying39 hk
  rw [cells39] at e1
  have hD : tabD = xs.map (·.1) := by
    have := congrArg Prod.fst hx
    exact congrArg partsOf this
  refine ⟨k, y0.1, y2.1, ?_, ?_⟩
  · rw [hD, List.getElem?_map, List.getElem?_eq_getElem hxn, hy, e2]
    rfl
  · rw [World.var?_cell hg0 hv0]
    have := mid_cell cs0.toList n _ e1
    simpa using this

theorem walk (x : Int) (W : World) (hx0 : 0 ≤ x) (hx : x ≤ 255) (h : laidMetH Ybad.prog laid1 W) : Calls Ybad.prog 3 #[.int .u8 x] W fun e w' => e = .returned (.bool true) ∧ Below W.heap.size W w' := by
  obtain ⟨n, hm, hn⟩ : ∃ n : Nat, x % 6 = (n : Int) ∧ n < 6 := ⟨(x % 6).toNat, by omega, by omega⟩
  obtain ⟨k, a, b, hD, hc⟩ := kinds_of_laid h n hn
  have hk : k = (if n < 4 then (if n < 2 then (n : Int) else 2) else 3) := by
    match n, hn, hD with
    | 0, _, hD => cases hD; rfl
    | 1, _, hD => cases hD; rfl
    | 2, _, hD => cases hD; rfl
    | 3, _, hD => cases hD; rfl
    | 4, _, hD => cases hD; rfl
    | 5, _, hD => cases hD; rfl
  by_cases h4 : n < 4
  · rw [if_pos h4] at hk
    refine walk_int x n k W hx0 hx hm h4 ?_ hc
    simp
    split at hk <;> omega
  · rw [if_neg h4] at hk
    subst hk
    exact walk_float x n W hx0 hx hm (by omega) hc

set_option maxRecDepth 100000 in
theorem lifted (os : Os) (started : os.Started) (H : Type) (enc : TypeId × Value → H) :
    ReturnsInHanded {} Ybad.checked os 3 .any (fun w args => (Rows.lawS3047AKindSpec.pre enc Ybad.prog Ybad.f3 [] false w args ∧ laidMetH Ybad.prog laid1 w) ∧ sizedMet enc Ybad.prog Ybad.f3 (OpenSpec.ofChange Rows.lawS3047AKindSpec) false w args)
      (Rows.lawS3047AKindSpec.post enc Ybad.prog Ybad.f3 false true false false) := by
  refine returnsInHanded_of_change_and (C := Ybad.checked) (X := fun w _ => laidMetH Ybad.prog laid1 w) (fun _ _ _ hh h => h.of_heap hh) own started (by kernel_rfl) Ybad.func3
    (ChangeSpec.witness_shaped (enc := enc) (C := Ybad.checked) (os := os) (X := fun w _ => laidMetH Ybad.prog laid1 w) false (World.doorLaid Ybad.prog 19 os) #[.int .u8 0] 8 rfl (World.shaped_of_RefB (by kernel_rfl) (by kernel_rfl)) (by kernel_rfl) (by kernel_rfl) (by kernel_rfl) (door_met os _)) ?_
  intro W base args ds gs before hval0 hW _ _ hL _
  have hval : ∀ (j : Nat) t v, Ybad.f3.params[j]? = some t → args[j]? = some v → Value.okWide Ybad.prog W .any base t v := hval0
  have hW' := hW
  obtain ⟨p, q, hA0, hV0, rfl, hfz, hnd⟩ := hW
  have hA : DataW.TrodAll enc Ybad.prog W 0 (fun _ => true) true Ybad.f3.params.toList args.toList ds p := hA0
  have hV : DataW.TrodVars enc Ybad.prog W (fun _ => true) [tabVar] gs q := hV0
  rw [Ybad.params3] at hA hval
  obtain ⟨v0, d0, rfl, rfl, h0⟩ := trodAll_one hA
  obtain ⟨x, rfl, rfl, rfl, wx⟩ := open_int Ybad.underlying5 (hval 0 5 v0 rfl rfl) h0
  have hb := bounds_u8 wx
  obtain ⟨g, t, cs, fuel, d, pv, rfl, hg, ht, hv, hd, rfl⟩ := trodVars_one hV
  obtain rfl := Option.some.inj (gTab.symm.trans hg)
  obtain rfl := Option.some.inj (tTab.symm.trans ht)
  have kv : DataW.Trod enc Ybad.prog W 0 (fun _ => true) true 42 (.agg cs) d pv := ⟨fuel, by simpa [Value.cells] using hd⟩
  have ltv : ∀ x ∈ pv, x.block < W.heap.size := DataW.trod_lt fuel _ _ _ hd
  clear hA0 hV0 hval0
  refine (walk x W hb.1 hb.2 hL).mono fun e W' ⟨he, bel⟩ => ?_
  subst he
  obtain ⟨fuel', hd'⟩ := Below.trod laidOut (by kernel_rfl) (of_decide_eq_true (by kernel_rfl)) kv bel ltv
  have hd2 : DataW.trod enc Ybad.prog W' 0 (fun b => decide (b < W.heap.size)) true fuel' 42 cs.toList = some (d, pv) := by simpa [Value.cells] using hd'
  have h0lt : 0 < W.heap.size := by
    obtain ⟨k, a, b, _, hc⟩ := kinds_of_laid hL 0 (by omega)
    exact lt_of_cell hc
  exact ⟨_, rfl, _, _, _, [], _, _, hW', trodAll_mk1 (shut_bool Ybad.underlying4 _), trodAll_mk1 (shut_int Ybad.underlying5 wx),
    trodVars_mk1 gTab tTab (var?_below bel gTab h0lt hv) hd2, bel.frame _, fun h => by cases h⟩

theorem row_holds : Rows.LawS3047AKindSaid :=
  OpenClaim.holds_of_wide 3 Ybad.f3 rfl rfl rfl rfl rfl rfl rfl ⟨rfl, rfl, rfl, rfl, rfl⟩ rfl rfl rfl rfl rfl (by kernel_rfl) Ybad.func3 (by kernel_rfl)
    (of_decide_eq_true (by kernel_rfl)) (by unfold Func.isWrapper; first | (rw [if_pos (by decide +kernel)]; kernel_rfl) | (rw [if_neg (by decide +kernel)]; exact ⟨rfl, rfl⟩))
    (fun os started H enc _ => lifted os started H enc)

theorem fnIs : Ybad.prog.funcNamed Rows.lawS3047AKindRow.func = some 3 := by kernel_rfl
theorem wants5 : Ybad.prog.wantsStandIn 5 = false := by kernel_rfl

theorem lawS3047AKindCard_proved : Rows.LawS3047AKindCardSaid :=
  Claim7.holds_tied_plain_at .later [] [.data] true Rows.lawS3047AKindCard.stood.harness true
    row_holds (fun _ h => by cases h) (by kernel_rfl) (fun _ h => by cases h) lawS3047AKind_row_tie rfl ⟨rfl, rfl⟩ (by kernel_rfl) rfl
    (fun f fn hf hfn => by
      obtain rfl : f = 3 := Option.some.inj (fnIs.symm.trans hf) |>.symm
      obtain rfl : fn = Ybad.f3 := (Option.some.inj (Ybad.func3.symm.trans hfn)).symm
      exact ⟨by kernel_rfl, fun j t ht => by
        rw [Ybad.params3] at ht
        have h5 : t = 5 := by
          rcases j with _ | j
          · simpa using ht.symm
          · simp at ht
        subst h5
        exact wants5⟩)
    (by kernel_rfl)
end Go.Proofs.YbulkbkbsDoor
