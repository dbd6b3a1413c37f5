import Derived.Test.YbulkbjymRows
import Derived.WalkKit
import Derived.ProofKit
import Derived.OpenShut
import Derived.ShutString
import Derived.ChangeOld
import Derived.Below
import Derived.Test.YbulkbjymState
namespace Go.Proofs.Ybulkbjym.lawS3041AFresh
open Go.ChangeShapes Go.WideShapes Go.ChangeAt Go.RowKit
open Go.ChangeMaps (open_string shut_string)
set_option linter.unusedVariables false      -- a walk need not use every 'w<i>' (that an integer argument fits its kind)

theorem own : ownKnob Yba.prog.godebug = none := by kernel_rfl

theorem bc_cells (w w1 : World) (bm : Nat) (cs : Array Value) (hb : bm = w.heap.size) (hg : ((w.alloc (.map #[] 0)).alloc (.cells cs 30)).grownBy w1 (some bm)) (o : Nat) : w1.cell? ⟨w.heap.size + 1, o, none⟩ = cs[o]? := by
  have h1 : w1.heap[w.heap.size + 1]? = some (.cells cs 30) := by
    rw [hg.block _ (by simp) (by subst hb; intro h; injection h; omega)]
    show ((w.heap.push _).push _)[w.heap.size + 1]? = _
    simp only [Array.getElem?_push, Array.size_push]
    rw [if_pos trivial]
  simp [World.cell?, h1]

set_option maxHeartbeats 400000 in
theorem walk (a0 : Int) (a1 : Int) (w0 : (Lit.int .u16 a0).wf = true) (w1 : (Lit.int .i64 a1).wf = true) (w : World) :
    Calls Yba.prog 3 #[.int .u16 a0, .int .i64 a1] w fun e w' => e = .returned (.bool true) ∧ Below w.heap.size w w' := by
  have hb := bounds_u16 w0
  by_cases hbig : 1024 < a0
  · go_enter Yba.func3, Yba.ntmps3
    go_wp2
    go_ret
    exact ⟨rfl, Below.refl _ _⟩
  · obtain ⟨N, rfl⟩ := Int.eq_ofNat_of_zero_le hb.1
    have hN : N ≤ 1024 := by omega
    have hmm := @run_makeMap Yba.prog
    have hne := neq_same
    go_enter Yba.func3, Yba.ntmps3
    go_wp2_with fail
    refine (state_new (w.heap.size + 1) w.heap.size 0 N a1 (.map []) _ (by omega) (by rw [World.cell?_alloc_at _ _ _ _ (by simp)]; rfl) (by rw [World.cell?_alloc_at _ _ _ _ (by simp)]; rfl)
      ((World.ownsMap_made _ _ _ _).alloc _) w1 rfl (by decide)).mono ?_
    rintro e w2 ⟨st, rfl, hst1, hst2, hown, hg, hfr, _⟩
    have hc := bc_cells w w2 w.heap.size _ rfl hg
    have k0 : w2.cell? ⟨w.heap.size + 1, 0, none⟩ = some (.int .i64 N) := hc 0
    have k11 : w2.cell? ⟨w.heap.size + 1, 11, none⟩ = some (.map (some w.heap.size)) := hc 11
    have k5 : w2.cell? ⟨w.heap.size + 1, 5, none⟩ = some (.int .i64 0) := hc 5
    have k4 : w2.cell? ⟨w.heap.size + 1, 4, none⟩ = some (.int .i64 3) := hc 4
    have hb2 : Below w.heap.size w w2 := (((Below.refl _ _).alloc (Nat.le_refl _) _).alloc (by simp) _).grown hg (by simp; omega) (fun k hk => by cases hk; exact Nat.le_refl _)
    have hat : ((DataW.map [] : DataW Unit).put (.int .i64 a1) (.lit (.int .i64 (st : Int)))).atKey (.int .i64 a1) (.lit (.int .i64 (-1))) = .lit (.int .i64 (st : Int)) := Maps.atKey_put_same Maps.isMap_empty (by trivial) _ _
    have hhas : Maps.has ((DataW.map [] : DataW Unit).put (.int .i64 a1) (.lit (.int .i64 (st : Int)))) (.int .i64 a1) = true := Maps.has_put_same Maps.isMap_empty (by trivial) _
    have hsz : Maps.size ((DataW.map [] : DataW Unit).put (.int .i64 a1) (.lit (.int .i64 (st : Int)))) = 1 := rfl
    generalize ((DataW.map [] : DataW Unit).put (.int .i64 a1) (.lit (.int .i64 (st : Int)))) = D at hown hat hhas hsz
    have hlen : (Builtin.len_ #[27] 3 #[.map (some w.heap.size)]).run Yba.prog w2 = .ok (.int .i64 1) w2 := by rw [len_run hown 3, hsz]; rfl
    have hlk := look_run hown w1 hat
    have Hhas : Hid (Maps.has D (.int .i64 a1) = true) := hhas
    have Hat : Hid (D.atKey (.int .i64 a1) (.lit (.int .i64 (-1))) = .lit (.int .i64 (st : Int))) := hat
    clear hc hhas hat hsz hg hst1 hst2
    go_wp2_with fail
    refine (fresh_any st N w2 (by omega) hfr).mono ?_
    rintro e w3 ⟨rfl, rfl⟩
    go_wp2_with fail
    refine (state_hit (w.heap.size + 1) w.heap.size _ st a1 D _ k11 hown w1 Hhas.out Hat.out).mono ?_
    rintro e w4 ⟨rfl, rfl⟩
    go_wp2_with fail
    go_ret
    exact ⟨rfl, hb2⟩

/-! ### THE ROW's STEP: WRITTEN OUT: LEAVE IT -/
set_option maxRecDepth 100000 in
theorem lifted (os : Os) (started : os.Started) (H : Type) (enc : TypeId × Value → H) :
    ReturnsInHanded {} Yba.checked os 3 .any (Rows.lawS3041AFreshSpec.pre6 enc Yba.prog Yba.f3 Rows.lawS3041AFreshRow.domain false) (Rows.lawS3041AFreshSpec.post enc Yba.prog Yba.f3 false true false false) := by
  refine returnsInHanded_of_change (C := Yba.checked) own started (by kernel_rfl) Yba.func3
    (ChangeSpec.witness6 (enc := enc) (C := Yba.checked) false ⟨#[], #[.int .u16 0, .int .i64 0], []⟩ 8 (by kernel_rfl) (by kernel_rfl) (by kernel_rfl) (by kernel_rfl)) ?_
  intro W base args ds gs before hval0 hW hcnd _
  have hval : ∀ (j : Nat) t v, Yba.f3.params[j]? = some t → args[j]? = some v → Value.okWide Yba.prog W .any base t v := hval0
  have hW' := hW
  obtain ⟨p, q, hA0, hV, rfl, hfz, hnd⟩ := hW
  have hA : DataW.TrodAll enc Yba.prog W 0 (fun _ => true) true Yba.f3.params.toList args.toList ds p := hA0
  rw [Yba.params3] at hA hval
  obtain ⟨v0, vs0, d0, ds0, p0, q0, hargs, rfl, rfl, h0, r0⟩ := trodAll_cons hA
  obtain ⟨v1, vs1, d1, ds1, p1, q1, rfl, rfl, rfl, h1, r1⟩ := trodAll_cons r0
  obtain ⟨rfl, rfl, rfl⟩ := trodAll_nil r1
  obtain rfl : args = #[v0, v1] := by cases args; simp_all
  obtain ⟨rfl, rfl⟩ := trodVars_none hV
  obtain ⟨a0, rfl, rfl, rfl, w0⟩ := open_int Yba.underlying22 (hval 0 22 v0 rfl rfl) h0
  obtain ⟨a1, rfl, rfl, rfl, w1⟩ := open_int Yba.underlying3 (hval 1 3 v1 rfl rfl) h1
  clear hA0 hval0
  simp only [List.append_nil] at hW'
  refine (walk a0 a1 w0 w1 W).mono fun e W' ⟨he, hg⟩ => ?_
  subst he
  exact ⟨_, rfl, _, _, _, [], _, [], hW', trodAll_mk1 (shut_bool Yba.underlying4 _), (trodAll_cons_mk (shut_int Yba.underlying22 w0) (trodAll_cons_mk (shut_int Yba.underlying3 w1) trodAll_mk0)), rfl, hg.frame _, fun h => by cases h⟩

theorem over : Rows.lawS3041AFreshRow.holds Yba.pinned (OpenSpec.ofChange Rows.lawS3041AFreshSpec) :=
  OpenClaim.holds_of_wide 3 Yba.f3 rfl rfl rfl rfl rfl rfl rfl ⟨rfl, rfl, rfl, rfl, rfl⟩ rfl rfl rfl rfl rfl (by kernel_rfl) Yba.func3 (by kernel_rfl)
    (of_decide_eq_true (by kernel_rfl)) (by unfold Func.isWrapper; first | (rw [if_pos (by decide +kernel)]; kernel_rfl) | (rw [if_neg (by decide +kernel)]; exact ⟨rfl, rfl⟩))
    (fun os started H enc _ => lifted os started H enc)

/-- ████ THE STATEMENT ████ -/
theorem proved : Rows.LawS3041AFreshSaid :=
  over
end Go.Proofs.Ybulkbjym.lawS3041AFresh

namespace Go.Proofs.Ybulkbjym
theorem lawS3041AFresh_proved : Rows.LawS3041AFreshSaid := lawS3041AFresh.proved
end Go.Proofs.Ybulkbjym
