/- LawS3041BRound: the row and the card. -/
import Derived.Test.YbulkbjymDoorLaid
import Derived.Test.YbulkbjymDoorRound
import Derived.Test.YbulkbjymDoorTie
import Derived.Test.YbulkbjymDoorCards
import Derived.SevenTiedAt
import Derived.ChangeOld
namespace Go.Proofs.YbulkbjymDoor.lawS3041BRound
open Go.ChangeShapes Go.WideShapes Go.ChangeAt Go.RowKit
set_option linter.unusedVariables false

set_option maxRecDepth 100000 in
theorem lifted (os : Os) (started : os.Started) (H : Type) (enc : TypeId × Value → H) :
    ReturnsInHanded {} Ybad.checked os 5 .any (fun w args => (Rows.lawS3041BRoundSpec.pre enc Ybad.prog Ybad.f5 [] false w args ∧ laidMetH Ybad.prog laid1 w) ∧ sizedMet enc Ybad.prog Ybad.f5 (OpenSpec.ofChange Rows.lawS3041BRoundSpec) false w args)
      (Rows.lawS3041BRoundSpec.post enc Ybad.prog Ybad.f5 false true false false) := by
  refine returnsInHanded_of_change_and (C := Ybad.checked) (X := fun w _ => laidMetH Ybad.prog laid1 w) (fun _ _ _ hh h => h.of_heap hh) own started (by kernel_rfl) Ybad.func5
    (ChangeSpec.witness_shaped (enc := enc) (C := Ybad.checked) (os := os) (X := fun w _ => laidMetH Ybad.prog laid1 w) false (World.doorLaid Ybad.prog 28 os) #[.int .i64 0, .bool false] 8 rfl (World.shaped_of_RefB (by kernel_rfl) (by kernel_rfl)) (by kernel_rfl) (by kernel_rfl) (by kernel_rfl) (door_met os _)) ?_
  intro W base args ds gs before hval0 hW _ _ hL _
  have hval : ∀ (j : Nat) t v, Ybad.f5.params[j]? = some t → args[j]? = some v → Value.okWide Ybad.prog W .any base t v := hval0
  have hW' := hW
  obtain ⟨p, q, hA0, hV0, rfl, hfz, hnd⟩ := hW
  have hA : DataW.TrodAll enc Ybad.prog W 0 (fun _ => true) true Ybad.f5.params.toList args.toList ds p := hA0
  have hV : DataW.TrodVars enc Ybad.prog W (fun _ => true) [errVar] gs q := hV0
  rw [Ybad.params5] at hA hval
  obtain ⟨v0, vs0, d0, ds0, p0, q0, hargs, rfl, rfl, h0, r0⟩ := trodAll_cons hA
  obtain ⟨v1, vs1, d1, ds1, p1, q1, rfl, rfl, rfl, h1, r1⟩ := trodAll_cons r0
  obtain ⟨rfl, rfl, rfl⟩ := trodAll_nil r1
  obtain rfl : args = #[v0, v1] := by cases args; simp_all
  obtain ⟨a0, rfl, rfl, rfl, w0⟩ := open_int Ybad.underlying3 (hval 0 3 v0 rfl rfl) h0
  obtain ⟨b1, rfl, rfl, rfl⟩ := open_bool Ybad.underlying4 (hval 1 4 v1 rfl rfl) h1
  have hb0 := bounds_i64 w0
  obtain ⟨a, hv, hg⟩ := sentinel_of_laid hL
  obtain ⟨rfl, rfl⟩ := hV.unique (vars_read enc hv trivial _)
  clear hA0 hV0 hval0
  refine (round_walk a0 b1 W hb0.1 hb0.2).mono fun e W' ⟨he, bel⟩ => ?_
  subst he
  exact ⟨_, rfl, _, _, _, [], _, [.cell 0 0], hW', trodAll_mk1 (shut_bool Ybad.underlying4 _), (trodAll_cons_mk (shut_int Ybad.underlying3 w0) (trodAll_cons_mk (shut_bool Ybad.underlying4 b1) trodAll_mk0)),
    vars_read enc (var?_below bel gErr (lt_of_cell hg) hv) trivial _, bel.frame _, fun h => by cases h⟩

theorem row_holds : Rows.LawS3041BRoundSaid :=
  OpenClaim.holds_of_wide 5 Ybad.f5 rfl rfl rfl rfl rfl rfl rfl ⟨rfl, rfl, rfl, rfl, rfl⟩ rfl rfl rfl rfl rfl (by kernel_rfl) Ybad.func5 (by kernel_rfl)
    (of_decide_eq_true (by kernel_rfl)) (by unfold Func.isWrapper; first | (rw [if_pos (by decide +kernel)]; kernel_rfl) | (rw [if_neg (by decide +kernel)]; exact ⟨rfl, rfl⟩))
    (fun os started H enc _ => lifted os started H enc)

theorem fnIs : Ybad.prog.funcNamed Rows.lawS3041BRoundRow.func = some 5 := by kernel_rfl
theorem wants : ∀ t ∈ ([3, 4] : List TypeId), Ybad.prog.wantsStandIn t = false := by
  intro t ht
  have h : ([3, 4] : List TypeId).all (fun t => !Ybad.prog.wantsStandIn t) = true := by kernel_rfl
  have := List.all_eq_true.1 h t ht
  simpa using this

theorem card_holds : Rows.LawS3041BRoundCardSaid :=
  Claim7.holds_tied_plain_at .later [] [.sentinel] true Rows.lawS3041BRoundCard.stood.harness true
    row_holds (fun _ h => by cases h) (by kernel_rfl) (fun _ h => by cases h) lawS3041BRound_row_tie rfl ⟨rfl, rfl⟩ (by kernel_rfl) rfl
    (fun f fn hf hfn => by
      obtain rfl : f = 5 := Option.some.inj (fnIs.symm.trans hf) |>.symm
      obtain rfl : fn = Ybad.f5 := (Option.some.inj (Ybad.func5.symm.trans hfn)).symm
      exact ⟨by kernel_rfl, fun j t ht => by
        rw [Ybad.params5] at ht
        exact wants t (List.mem_of_getElem? (by simpa using ht))⟩)
    (by kernel_rfl)
end Go.Proofs.YbulkbjymDoor.lawS3041BRound

namespace Go.Proofs.YbulkbjymDoor
theorem lawS3041BRoundCard_proved : Rows.LawS3041BRoundCardSaid := lawS3041BRound.card_holds
end Go.Proofs.YbulkbjymDoor
