/- LawS3041BModel: the walk, the row, the card. -/
import Derived.Test.YbulkbjymDoorLaid
import Derived.Test.YbulkbjymDoorTie
import Derived.Test.YbulkbjymDoorCards
import Derived.SevenTiedAt
import Derived.ChangeOld
namespace Go.Proofs.YbulkbjymDoor.lawS3041BModel
open Go.ChangeShapes Go.WideShapes Go.ChangeAt Go.RowKit
set_option linter.unusedVariables false

theorem row_below {w w' : World} {a : Option Addr} {len cap : Nat} {z : Nat → Int} (h : Row w a len cap z) (hb : Below w.heap.size w w') : Row w' a len cap z := by
  rcases h with h | ⟨b, off, e, hc⟩
  · exact .inl h
  · exact .inr ⟨b, off, e, fun i hi => by rw [hb.cell (lt_of_cell (hc i hi))]; exact hc i hi⟩

set_option maxHeartbeats 1000000 in
theorem walk (ad : Option Addr) (len cap : Nat) (z : Nat → Int) (w : World) (a : Addr) (hg : w.cell? ⟨0, 0, none⟩ = some (.iface 46 (.pointer (some a)))) (hlen9 : len ≤ 9223372036854775807) (hcap : len ≤ cap) (hr : Row w ad len cap z) (hz : ∀ i, 0 ≤ z i ∧ z i ≤ 255) :
    Calls Ybad.prog 3 #[.slice ad len cap] w fun e w' => e = .returned (.bool true) ∧ Below w.heap.size w w' := by
  by_cases hbig : 4096 < len
  · have hd : decide ((4096 : Int) < (len : Int)) = true := by simp; omega
    go_enter Ybad.func3, Ybad.ntmps3
    go_wp2_with fail
    go_ret
    exact ⟨rfl, Below.refl _ _⟩
  · have hd : decide ((4096 : Int) < (len : Int)) = false := by simp; omega
    have hlen : len ≤ 4611686018427387904 := by omega
    clear hlen9
    by_cases hgood : ∃ t, Good z len t
    · obtain ⟨t, hT, hsz, hint, hbit⟩ := hgood
      subst hsz
      rcases hr with ⟨h0, _⟩ | ⟨b, off, rfl, hc⟩
      · omega
      have ht : t ≤ 4094 := by omega
      have hd' : decide ((4096 : Int) < (t : Int) + 2) = false := by simp; omega
      clear hd hbig hlen
      go_enter Ybad.func3, Ybad.ntmps3
      go_wp2_with fail
      refine (dec_ok b off cap t z w hcap hc hz hT hint hbit).mono ?_
      rintro e w1 ⟨rfl, hb1⟩
      go_wp2_with fail
      refine (model_ok b off cap t z w1 hcap (fun i hi => by rw [hb1.cell (lt_of_cell (hc i hi))]; exact hc i hi) hz hT hint (val_nonneg z t) hbit).mono ?_
      rintro e w2 ⟨rfl, n, rfl⟩
      go_wp2_with fail
      go_ret
      exact ⟨rfl, below_drewN hb1 n⟩
    · have hbad : ∀ t, ¬ Good z len t := fun t h => hgood ⟨t, h⟩
      have heq := eql_same
      clear hgood
      go_enter Ybad.func3, Ybad.ntmps3
      go_wp2_with fail
      refine (dec_bad ad len cap z w 46 (.pointer (some a)) hg hlen hcap hr hz hbad).mono ?_
      rintro e w1 ⟨rfl, hb1⟩
      have hg1 : w1.cell? ⟨0, 0, none⟩ = some (.iface 46 (.pointer (some a))) := by rw [hb1.cell (lt_of_cell hg)]; exact hg
      go_wp2_with fail
      refine (model_bad ad len cap z w1 hlen hcap (row_below hr hb1) hz hbad).mono ?_
      rintro e w2 ⟨rfl, rfl⟩
      go_wp2_with fail
      go_ret
      exact ⟨rfl, hb1⟩

set_option maxRecDepth 100000 in
theorem lifted (os : Os) (started : os.Started) (H : Type) (enc : TypeId × Value → H) :
    ReturnsInHanded {} Ybad.checked os 3 .any (fun w args => (Rows.lawS3041BModelSpec.pre enc Ybad.prog Ybad.f3 [] false w args ∧ laidMetH Ybad.prog laid1 w) ∧ sizedMet enc Ybad.prog Ybad.f3 (OpenSpec.ofChange Rows.lawS3041BModelSpec) false w args)
      (Rows.lawS3041BModelSpec.post enc Ybad.prog Ybad.f3 false true false false) := by
  refine returnsInHanded_of_change_and (C := Ybad.checked) (X := fun w _ => laidMetH Ybad.prog laid1 w) (fun _ _ _ hh h => h.of_heap hh) own started (by kernel_rfl) Ybad.func3
    (ChangeSpec.witness_shaped (enc := enc) (C := Ybad.checked) (os := os) (X := fun w _ => laidMetH Ybad.prog laid1 w) false (World.doorLaid Ybad.prog 28 os) #[.slice none 0 0] 8 rfl (World.shaped_of_RefB (by kernel_rfl) (by kernel_rfl)) (by kernel_rfl) (by kernel_rfl) (by kernel_rfl) (door_met os _)) ?_
  intro W base args ds gs before hval0 hW _ _ hL _
  have hval : ∀ (j : Nat) t v, Ybad.f3.params[j]? = some t → args[j]? = some v → Value.okWide Ybad.prog W .any base t v := hval0
  have hW' := hW
  obtain ⟨p, q, hA0, hV0, rfl, hfz, hnd⟩ := hW
  have hA : DataW.TrodAll enc Ybad.prog W 0 (fun _ => true) true Ybad.f3.params.toList args.toList ds p := hA0
  have hV : DataW.TrodVars enc Ybad.prog W (fun _ => true) [errVar] gs q := hV0
  rw [Ybad.params3] at hA hval
  obtain ⟨v0, d0, rfl, rfl, h0⟩ := trodAll_one hA
  obtain ⟨a0, len0, cap0, rfl⟩ := okWide_slice Ybad.underlying22 (hval 0 22 v0 rfl rfl)
  have k0 := h0
  have lt0 : ∀ x ∈ p, x.block < W.heap.size := by obtain ⟨m, hm⟩ := k0; exact DataW.trod_lt m _ _ _ hm
  obtain ⟨z0, hr, hz, hl0, hcap⟩ := row_of_trod h0
  obtain ⟨a, hv, hg⟩ := sentinel_of_laid hL
  obtain ⟨rfl, rfl⟩ := hV.unique (vars_read enc hv trivial _)
  clear hA0 hV0 hval0
  refine (walk a0 len0 cap0 z0 W a hg hl0 hcap hr hz).mono fun e W' ⟨he, bel⟩ => ?_
  subst he
  exact ⟨_, rfl, _, _, _, [], p, [.cell 0 0], hW', trodAll_mk1 (shut_bool Ybad.underlying4 _), trodAll_mk1 (Below.trod laidOut (by kernel_rfl) (of_decide_eq_true (by kernel_rfl)) k0 bel lt0),
    vars_read enc (var?_below bel gErr (lt_of_cell hg) hv) trivial _, bel.frame _, fun h => by cases h⟩

theorem row_holds : Rows.LawS3041BModelSaid :=
  OpenClaim.holds_of_wide 3 Ybad.f3 rfl rfl rfl rfl rfl rfl rfl ⟨rfl, rfl, rfl, rfl, rfl⟩ rfl rfl rfl rfl rfl (by kernel_rfl) Ybad.func3 (by kernel_rfl)
    (of_decide_eq_true (by kernel_rfl)) (by unfold Func.isWrapper; first | (rw [if_pos (by decide +kernel)]; kernel_rfl) | (rw [if_neg (by decide +kernel)]; exact ⟨rfl, rfl⟩))
    (fun os started H enc _ => lifted os started H enc)

theorem fn3 : Ybad.prog.funcNamed Rows.lawS3041BModelRow.func = some 3 := by kernel_rfl
theorem wants22 : Ybad.prog.wantsStandIn 22 = false := by kernel_rfl

theorem card_holds : Rows.LawS3041BModelCardSaid :=
  Claim7.holds_tied_plain_at .later [] [.sentinel] true Rows.lawS3041BModelCard.stood.harness true
    row_holds (fun _ h => by cases h) (by kernel_rfl) (fun _ h => by cases h) lawS3041BModel_row_tie rfl ⟨rfl, rfl⟩ (by kernel_rfl) rfl
    (fun f fn hf hfn => by
      obtain rfl : f = 3 := Option.some.inj (fn3.symm.trans hf) |>.symm
      obtain rfl : fn = Ybad.f3 := (Option.some.inj (Ybad.func3.symm.trans hfn)).symm
      exact ⟨by kernel_rfl, fun j t ht => by
        rw [Ybad.params3] at ht
        have h3 : t = 22 := by
          rcases j with _ | j
          · simpa using ht.symm
          · simp at ht
        subst h3
        exact wants22⟩)
    (by kernel_rfl)
end Go.Proofs.YbulkbjymDoor.lawS3041BModel

namespace Go.Proofs.YbulkbjymDoor
theorem lawS3041BModelCard_proved : Rows.LawS3041BModelCardSaid := lawS3041BModel.card_holds
end Go.Proofs.YbulkbjymDoor
