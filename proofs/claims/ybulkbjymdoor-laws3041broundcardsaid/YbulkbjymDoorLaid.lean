/- What the laws' proofs share: the sentinel out of what the row lists, comparisons of errors, the variable read again. -/
import Derived.Test.YbulkbjymDoorRows
import Derived.Test.YbulkbjymDoorDec
import Derived.ProofKit
import Derived.ChangeVars
import Derived.RowKitTokens
import Derived.LaidLaws
import Derived.LaidMore
import Derived.LaidEql
import Derived.WalkSmall
import Derived.OpenShut
import Derived.Stop.ErrReads
import Derived.Stop.Joined
namespace Go.Proofs.YbulkbjymDoor
open Go.ChangeShapes Go.WideShapes Go.ChangeAt Go.RowKit
set_option linter.unusedVariables false

/-- The listed variable's name, and the listed datum's type's name, off the given rows. -/
abbrev errVar : String := Rows.lawS3041BModelSpec.vars.headD default
def nameOf : DataW Unit → String
  | .iface nm _ => nm
  | _ => default
abbrev errName : String := nameOf Rows.laid_example_com_strategos_strategos_internal_node_errMalformed
abbrev laid1 : List (String × DataW Unit) := Rows.lawS3041BModelRow.laid

theorem own : ownKnob Ybad.prog.godebug = none := by kernel_rfl
theorem laidOut : laidOutB Ybad.prog = true := by kernel_rfl
theorem gErr : Ybad.prog.globalNamed errVar = some 0 := by kernel_rfl
theorem tErr : (Ybad.prog.globals[0]?).map (·.type) = some 24 := by kernel_rfl
theorem cells65 : Ybad.prog.cellsOf 65 = 1 := by kernel_rfl
theorem cells9 : Ybad.prog.cellsOf 9 = 1 := by kernel_rfl
theorem row46 (u : TypeId) (h : Ybad.prog.typeName? 3 u = some errName) : u = 46 :=
  typeName_ptr_named (nm := "errors.errorString") (by kernel_rfl) (by kernel_rfl) (by decide) u (h.trans (by kernel_rfl))

/-- The door's own heap meets the condition. -/
theorem door_met (os : Os) (args : Array Value) : laidMetH Ybad.prog laid1 ((World.doorLaid Ybad.prog 28 os).forCall (fun _ _ => 0) ⟨#[], args, []⟩).memory :=
  laidMetH_of_parts3 (fuel := 8) (laidMet_of_run' 8 (by kernel_rfl) (by kernel_rfl)) (by kernel_rfl) (by kernel_rfl)

/-- What the condition gives the walks: the variable holds a pointer of errors.New's make. -/
theorem sentinel_of_laid {W : World} (h : laidMetH Ybad.prog laid1 W) : ∃ a : Addr, W.var? Ybad.prog errVar = some #[.iface 46 (.pointer (some a))] ∧ W.cell? ⟨0, 0, none⟩ = some (.iface 46 (.pointer (some a))) := by
  rw [MakeChecks.laidMetH_plain _ _ _ (by kernel_rfl)] at h
  obtain ⟨ps, ⟨g0, t0, cs0, f0, p0, q0, hg0, ht0, hv0, hd0, hq, e0⟩, hnd, hrows⟩ := h
  obtain rfl := Option.some.inj (gErr.symm.trans hg0)
  obtain rfl := Option.some.inj (tErr.symm.trans ht0)
  have hq' : q0 = [] := hq
  subst hq'
  subst e0
  obtain ⟨l0⟩ := cs0
  have ok0 : ∀ u v, l0 = [.iface u v] → Value.okWide Ybad.prog W .any 0 u v := fun u v e => by
    subst e
    exact (hrows 0 0 (by simp [MemPlace.row])).2 u v (by simpa using World.var?_cell hg0 hv0 0)
  obtain ⟨a0, s0, rfl, hc0, hs0, hz0, rfl⟩ := errorString_of_trod Ybad.underlying24 row46 Ybad.underlying46 Ybad.underlying65 rfl rfl Ybad.underlying9 cells65 cells9 hd0 ok0
  exact ⟨a0, hv0, by simpa using World.var?_cell hg0 hv0 0⟩

/-- The variable read as a token. -/
theorem vars_read {H : Type} (enc : TypeId × Value → H) {W : World} {x0 : Value} (h0 : W.var? Ybad.prog errVar = some #[x0]) (i0 : IsIface x0) (sp : Nat → Bool) :
    DataW.TrodVars enc Ybad.prog W sp [errVar] [tok enc x0] [.cell 0 0] :=
  ⟨0, 24, #[x0], 1, [], [], gErr, tErr, h0, trod_held Ybad.underlying24 i0 0, rfl, rfl⟩

/-- A slice of bytes that came in, opened for the walks. -/
theorem add_off (b off i : Nat) : (⟨b, off, none⟩ : Addr).add i = ⟨b, off + i, none⟩ := by
  unfold Addr.add
  by_cases h : i = 0
  · subst h; simp
  · simp [h]

theorem row_of_trod {H : Type} {enc : TypeId × Value → H} {W : World} {base : Nat} {sp : Nat → Bool} {held : Bool} {a : Option Addr} {len cap : Nat} {d : DataW H} {p : List MemPlace} (h : DataW.Trod enc Ybad.prog W base sp held 22 (.slice a len cap) d p) :
    ∃ z : Nat → Int, Row W a len cap z ∧ (∀ i, 0 ≤ z i ∧ z i ≤ 255) ∧ len ≤ 9223372036854775807 ∧ len ≤ cap := by
  obtain ⟨fuel, hf⟩ := h
  rcases open_ints Ybad.underlying22 Ybad.underlying5 (by kernel_rfl) hf with ⟨hcs, _⟩ | ⟨x, l, c, zs, hcs, _, hl, hm, hz, _, hcell, hwz⟩
  · simp [Value.cells] at hcs
    obtain ⟨rfl, rfl, rfl⟩ := hcs
    exact ⟨fun _ => 0, .inl ⟨rfl, fun _ => rfl⟩, fun _ => by simp, by omega, by omega⟩
  · simp [Value.cells] at hcs
    obtain ⟨rfl, rfl, rfl⟩ := hcs
    have hr := range_u8 hwz
    have hll : len ≤ zs.length := by rw [hz]; split <;> omega
    refine ⟨fun i => zs.getD i 0, ?_, fun i => by have := hr i; simpa using this, by unfold maxLen at hm; omega, hl⟩
    by_cases h0 : len = 0
    · exact .inl ⟨h0, fun h => by cases h⟩
    · obtain ⟨b, off, spot⟩ := x
      have hc := hcell 0 (by omega)
      have hspot : spot = none := by simpa [Addr.add] using World.cell?_spot hc
      subst hspot
      exact .inr ⟨b, off, rfl, fun i hi => by have := hcell i (by omega); rw [add_off] at this; exact this⟩

theorem info46 : (Ybad.prog.info? 46).map (·.comparable) = some true := by kernel_rfl
theorem info65 : (Ybad.prog.info? 65).isSome = true := by kernel_rfl
/-- '==' between the sentinel and itself. -/
theorem eql_same (a : Addr) (w : World) : (binOp .eql 24 (.iface 46 (.pointer (some a))) (.iface 46 (.pointer (some a)))).run Ybad.prog w = .ok (.bool true) w := by
  obtain ⟨j, hj⟩ := Option.isSome_iff_exists.1 info65
  obtain ⟨i, hi, hc⟩ := Option.map_eq_some_iff.1 info46
  exact run_eql_iface_ptr_same w a Ybad.underlying24 Ybad.underlying46 hi hc hj
end Go.Proofs.YbulkbjymDoor
