/- LawS3041BBuilt: the row and the card. -/
import Derived.Test.YbulkbjymDoorLaid
import Derived.Test.YbulkbjymDoorBuilt
import Derived.Test.YbulkbjymDoorTie
import Derived.Test.YbulkbjymDoorCards
import Derived.SevenTiedAt
import Derived.ChangeOld
namespace Go.Proofs.YbulkbjymDoor.lawS3041BBuilt
open Go.ChangeShapes Go.WideShapes Go.ChangeAt Go.RowKit
set_option linter.unusedVariables false

set_option maxRecDepth 100000 in
theorem lifted (os : Os) (started : os.Started) (H : Type) (enc : TypeId × Value → H) :
    ReturnsInHanded {} Ybad.checked os 4 .any (fun w args => (Rows.lawS3041BBuiltSpec.pre enc Ybad.prog Ybad.f4 [] false w args ∧ laidMetH Ybad.prog laid1 w) ∧ sizedMet enc Ybad.prog Ybad.f4 (OpenSpec.ofChange Rows.lawS3041BBuiltSpec) false w args)
      (Rows.lawS3041BBuiltSpec.post enc Ybad.prog Ybad.f4 false true false false) := by
  refine returnsInHanded_of_change_and (C := Ybad.checked) (X := fun w _ => laidMetH Ybad.prog laid1 w) (fun _ _ _ hh h => h.of_heap hh) own started (by kernel_rfl) Ybad.func4
    (ChangeSpec.witness_shaped (enc := enc) (C := Ybad.checked) (os := os) (X := fun w _ => laidMetH Ybad.prog laid1 w) false (World.doorLaid Ybad.prog 28 os) #[.int .u64 0, .int .u8 0, .slice none 0 0] 8 rfl (World.shaped_of_RefB (by kernel_rfl) (by kernel_rfl)) (by kernel_rfl) (by kernel_rfl) (by kernel_rfl) (door_met os _)) ?_
  intro W base args ds gs before hval0 hW _ _ hL _
  have hval : ∀ (j : Nat) t v, Ybad.f4.params[j]? = some t → args[j]? = some v → Value.okWide Ybad.prog W .any base t v := hval0
  have hW' := hW
  obtain ⟨p, q, hA0, hV0, rfl, hfz, hnd⟩ := hW
  have hA : DataW.TrodAll enc Ybad.prog W 0 (fun _ => true) true Ybad.f4.params.toList args.toList ds p := hA0
  have hV : DataW.TrodVars enc Ybad.prog W (fun _ => true) [errVar] gs q := hV0
  rw [Ybad.params4] at hA hval
  obtain ⟨v0, vs0, d0, ds0, p0, q0, hargs, rfl, rfl, h0, r0⟩ := trodAll_cons hA
  obtain ⟨v1, vs1, d1, ds1, p1, q1, rfl, rfl, rfl, h1, r1⟩ := trodAll_cons r0
  obtain ⟨v2, vs2, d2, ds2, p2, q2, rfl, rfl, rfl, h2, r2⟩ := trodAll_cons r1
  obtain ⟨rfl, rfl, rfl⟩ := trodAll_nil r2
  obtain rfl : args = #[v0, v1, v2] := by cases args; simp_all
  obtain ⟨a0, rfl, rfl, rfl, w0⟩ := open_int Ybad.underlying30 (hval 0 30 v0 rfl rfl) h0
  obtain ⟨a1, rfl, rfl, rfl, w1⟩ := open_int Ybad.underlying5 (hval 1 5 v1 rfl rfl) h1
  have hb0 := bounds_u64 w0
  have hb1 := bounds_u8 w1
  obtain ⟨a2, len2, cap2, rfl⟩ := okWide_slice Ybad.underlying22 (hval 2 22 v2 rfl rfl)
  have k2 := h2
  have lt2 : ∀ x ∈ p2, x.block < W.heap.size := by obtain ⟨m, hm⟩ := k2; exact DataW.trod_lt m _ _ _ hm
  obtain ⟨z2, hr2, hz2, hl2, hcap2⟩ := row_of_trod h2
  obtain ⟨a, hv, hg⟩ := sentinel_of_laid hL
  obtain ⟨rfl, rfl⟩ := hV.unique (vars_read enc hv trivial _)
  clear hA0 hV0 hval0
  refine (built_walk a0 a1 a2 len2 cap2 z2 W a hg hb0.1 hb0.2 hb1.1 hb1.2 hl2 hcap2 hr2 hz2).mono fun e W' ⟨he, bel⟩ => ?_
  subst he
  exact ⟨_, rfl, _, _, _, [], _, [.cell 0 0], hW', trodAll_mk1 (shut_bool Ybad.underlying4 _), (trodAll_cons_mk (shut_int Ybad.underlying30 w0) (trodAll_cons_mk (shut_int Ybad.underlying5 w1) (trodAll_cons_mk (Below.trod laidOut (by kernel_rfl) (of_decide_eq_true (by kernel_rfl)) k2 bel lt2) trodAll_mk0))),
    vars_read enc (var?_below bel gErr (lt_of_cell hg) hv) trivial _, bel.frame _, fun h => by cases h⟩

theorem row_holds : Rows.LawS3041BBuiltSaid :=
  OpenClaim.holds_of_wide 4 Ybad.f4 rfl rfl rfl rfl rfl rfl rfl ⟨rfl, rfl, rfl, rfl, rfl⟩ rfl rfl rfl rfl rfl (by kernel_rfl) Ybad.func4 (by kernel_rfl)
    (of_decide_eq_true (by kernel_rfl)) (by unfold Func.isWrapper; first | (rw [if_pos (by decide +kernel)]; kernel_rfl) | (rw [if_neg (by decide +kernel)]; exact ⟨rfl, rfl⟩))
    (fun os started H enc _ => lifted os started H enc)

theorem fnIs : Ybad.prog.funcNamed Rows.lawS3041BBuiltRow.func = some 4 := by kernel_rfl
theorem wants : ∀ t ∈ ([30, 5, 22] : List TypeId), Ybad.prog.wantsStandIn t = false := by
  intro t ht
  have h : ([30, 5, 22] : List TypeId).all (fun t => !Ybad.prog.wantsStandIn t) = true := by kernel_rfl
  have := List.all_eq_true.1 h t ht
  simpa using this

theorem card_holds : Rows.LawS3041BBuiltCardSaid :=
  Claim7.holds_tied_plain_at .later [] [.sentinel] true Rows.lawS3041BBuiltCard.stood.harness true
    row_holds (fun _ h => by cases h) (by kernel_rfl) (fun _ h => by cases h) lawS3041BBuilt_row_tie rfl ⟨rfl, rfl⟩ (by kernel_rfl) rfl
    (fun f fn hf hfn => by
      obtain rfl : f = 4 := Option.some.inj (fnIs.symm.trans hf) |>.symm
      obtain rfl : fn = Ybad.f4 := (Option.some.inj (Ybad.func4.symm.trans hfn)).symm
      exact ⟨by kernel_rfl, fun j t ht => by
        rw [Ybad.params4] at ht
        exact wants t (List.mem_of_getElem? (by simpa using ht))⟩)
    (by kernel_rfl)
end Go.Proofs.YbulkbjymDoor.lawS3041BBuilt

namespace Go.Proofs.YbulkbjymDoor
theorem lawS3041BBuiltCard_proved : Rows.LawS3041BBuiltCardSaid := lawS3041BBuilt.card_holds
end Go.Proofs.YbulkbjymDoor
