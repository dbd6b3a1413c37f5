/- The contracts of zzs3047bclone, zzs3047bsame and NewReader. -/
import Derived.Test.YbulkbkbsLe
import Derived.Deep.OwnRows
import Derived.Laws.CopyOwn
namespace Go.Proofs.Ybulkbkbs
open Go.RowKit
set_option linter.unusedVariables false

/-- What a slice of bytes holds: nothing, or the bytes z. -/
def Row (w : World) (a : Option Addr) (len cap : Nat) (z : Nat → Nat) : Prop :=
  (len = 0 ∧ (a.isNone = true → cap = 0)) ∨ ∃ b off, a = some ⟨b, off, none⟩ ∧ ∀ i, i < len → w.cell? ⟨b, off + i, none⟩ = some (.int .u8 (z i))

theorem row_below {w w' : World} {a : Option Addr} {len cap : Nat} {z : Nat → Nat} (h : Row w a len cap z) (hb : Below w.heap.size w w') : Row w' a len cap z := by
  rcases h with h | ⟨b, off, e, hc⟩
  · exact .inl h
  · exact .inr ⟨b, off, e, fun i hi => by rw [hb.cell (lt_of_cell (hc i hi))]; exact hc i hi⟩

theorem info5 : (Yba.prog.info? 5).map (fun i => (i.zero, i.size, i.bytes)) = some (some (.int .u8 0), 1, 1) := by kernel_rfl
theorem size5 : (Yba.prog.info? 5).map (·.size) = some 1 := by kernel_rfl

/-- The bytes as cells. -/
def byteCells (z : Nat → Nat) (len : Nat) : List Value := (List.range len).map fun i => .int .u8 (z i)
theorem byteCells_length (z : Nat → Nat) (len : Nat) : (byteCells z len).length = len := by simp [byteCells]
theorem byteCells_get (z : Nat → Nat) (len i : Nat) (h : i < len) : (byteCells z len)[i]? = some (.int .u8 (z i)) := by simp [byteCells, h]

/-- A slice of the law's own: nil, or a whole block of just its bytes. -/
def Own (w : World) (a : Option Addr) (len cap : Nat) (z : Nat → Nat) : Prop :=
  (a = none ∧ len = 0 ∧ cap = 0) ∨ ∃ g, a = some ⟨g, 0, none⟩ ∧ cap = len ∧ g < w.heap.size ∧ ∀ i, i < len → w.cell? ⟨g, 0 + i, none⟩ = some (.int .u8 (z i))
theorem Own.row {w : World} {a : Option Addr} {len cap : Nat} {z : Nat → Nat} (h : Own w a len cap z) : Row w a len cap z := by
  rcases h with ⟨_, h0, h1⟩ | ⟨g, e, _, _, hc⟩
  · exact .inl ⟨h0, fun _ => h1⟩
  · exact .inr ⟨g, 0, e, hc⟩
theorem Own.below {w w' : World} {a : Option Addr} {len cap : Nat} {z : Nat → Nat} (h : Own w a len cap z) (hb : Below w.heap.size w w') : Own w' a len cap z := by
  rcases h with h | ⟨g, e, e2, hg, hc⟩
  · exact .inl h
  · exact .inr ⟨g, e, e2, Nat.lt_of_lt_of_le hg hb.size, fun i hi => by rw [hb.cell (lt_of_cell (hc i hi))]; exact hc i hi⟩

/-- What clone hands back. -/
def ClonePost (len : Nat) (z : Nat → Nat) (w : World) (e : Ending) (w' : World) : Prop :=
  ∃ a' cap', e = .returned (.slice a' len cap') ∧ Own w' a' len cap' z ∧ Below w.heap.size w w'

theorem clone_nil (z : Nat → Nat) (w : World) : Calls Yba.prog 5 #[.slice none 0 0] w (ClonePost 0 z w) := by
  have he := fun w => Lib.run_eql_slice_nil (P := Yba.prog) w 22 _ none 0 0 0 0 Yba.underlying22
  go_enter Yba.func5, Yba.ntmps5
  go_wp2
  go_ret
  exact ⟨none, 0, rfl, .inl ⟨rfl, rfl, rfl⟩, Below.refl _ _⟩

theorem clone_empty (x : Addr) (cap : Nat) (z : Nat → Nat) (w : World) : Calls Yba.prog 5 #[.slice (some x) 0 cap] w (ClonePost 0 z w) := by
  have he := fun w => Lib.run_eql_slice_nil (P := Yba.prog) w 22 _ (some x) 0 cap 0 0 Yba.underlying22
  have hmk : ∀ w, (Instr.makeSlice 22 (.int .i64 0) (.int .i64 0)).run Yba.prog w = .ok (.slice (some ⟨w.heap.size, 0, none⟩) 0 0) (w.alloc (.cells (madeCells #[.int .u8 0] 0) 5)) :=
    run_make_row' (P := Yba.prog) 22 5 (.int .u8 0) 1 Yba.underlying22 info5 rfl .i64 .i64 0 (by omega) (by omega)
  have hcp := fun w ty d => run_copy_none (P := Yba.prog) w 22 22 ty 5 d (some x) 0 0 0 cap Yba.underlying22 size5 rfl
  go_enter Yba.func5, Yba.ntmps5
  go_wp2
  go_ret
  exact ⟨some ⟨w.heap.size, 0, none⟩, 0, rfl, .inr ⟨w.heap.size, rfl, rfl, by simp, fun i hi => by omega⟩, (Below.refl _ _).alloc (Nat.le_refl _) _⟩

theorem clone_some (b off len cap : Nat) (z : Nat → Nat) (w : World) (hpos : 0 < len) (hlen : len ≤ 4096) (hc : ∀ i, i < len → w.cell? ⟨b, off + i, none⟩ = some (.int .u8 (z i))) :
    Calls Yba.prog 5 #[.slice (some ⟨b, off, none⟩) len cap] w (ClonePost len z w) := by
  have he := fun w => Lib.run_eql_slice_nil (P := Yba.prog) w 22 _ (some ⟨b, off, none⟩) len cap 0 0 Yba.underlying22
  have hmk := run_make_row' (P := Yba.prog) 22 5 (.int .u8 0) 1 Yba.underlying22 info5 rfl .i64 .i64 len (by omega) (by omega)
  have hnew : (w.alloc (.cells (madeCells #[.int .u8 0] len) 5)).heap[w.heap.size]? = some (.cells (madeCells #[.int .u8 0] len) 5 (0, 0)) := by
    show (w.heap.push _)[w.heap.size]? = _
    simp
  have hcp := fun ty => run_copy_row (P := Yba.prog) (w.alloc (.cells (madeCells #[.int .u8 0] len) 5)) 22 22 ty 5 w.heap.size 0 len len ⟨b, off, none⟩ len cap (madeCells #[.int .u8 0] len) 5 (byteCells z len) Yba.underlying22 size5 hnew
    (by rw [byteCells_length]; exact (Nat.min_self _).symm)
    (fun j v hj => by
      have hjl : j < len := by have := (List.getElem?_eq_some_iff.1 hj).1; rwa [byteCells_length] at this
      rw [byteCells_get z len j hjl] at hj
      rw [Addr.add_lit, cell_new _ (hc j hjl)]; exact hj)
    (by rw [byteCells_length, size_madeCells]; omega) (fun v hv => by obtain ⟨_, _, rfl⟩ := List.mem_map.1 hv; rfl)
  have hrow : (List.take 0 (madeCells #[.int .u8 0] len).toList ++ byteCells z len ++ List.drop (0 + (byteCells z len).length) (madeCells #[.int .u8 0] len).toList) = byteCells z len := by
    rw [byteCells_length]; simp [size_madeCells]
  rw [hrow] at hcp
  have hfin : ((w.alloc (.cells (madeCells #[.int .u8 0] len) 5)).setRow w.heap.size (byteCells z len).toArray).heap[w.heap.size]? = some (.cells (byteCells z len).toArray 5 (0, 0)) := setRow_heap _ _ _ _ _ _ hnew
  have hbel : Below w.heap.size w ((w.alloc (.cells (madeCells #[.int .u8 0] len) 5)).setRow w.heap.size (byteCells z len).toArray) := below_setRow ((Below.refl _ _).alloc (Nat.le_refl _) _) (Nat.le_refl _) _
  have hszf : w.heap.size < ((w.alloc (.cells (madeCells #[.int .u8 0] len) 5)).setRow w.heap.size (byteCells z len).toArray).heap.size := (Array.getElem?_eq_some_iff.1 hfin).1
  have hcell : ∀ i, i < len → ((w.alloc (.cells (madeCells #[.int .u8 0] len) 5)).setRow w.heap.size (byteCells z len).toArray).cell? ⟨w.heap.size, 0 + i, none⟩ = some (.int .u8 (z i)) := fun i hi => by
    simp only [World.cell?, hfin]
    simp [byteCells, hi]
  generalize (w.alloc (.cells (madeCells #[.int .u8 0] len) 5)).setRow w.heap.size (byteCells z len).toArray = wf at hcp hbel hcell hszf
  clear hfin hrow hnew hc
  go_enter Yba.func5, Yba.ntmps5
  go_wp2
  go_ret
  exact ⟨some ⟨w.heap.size, 0, none⟩, len, rfl, .inr ⟨w.heap.size, rfl, rfl, hszf, hcell⟩, hbel⟩

theorem clone_any (a : Option Addr) (len cap : Nat) (z : Nat → Nat) (w : World) (hlen : len ≤ 4096) (hr : Row w a len cap z) : Calls Yba.prog 5 #[.slice a len cap] w (ClonePost len z w) := by
  by_cases h0 : len = 0
  · subst h0
    cases a with
    | none =>
      have hc : cap = 0 := by
        rcases hr with ⟨_, h⟩ | ⟨b, off, e, _⟩
        · exact h rfl
        · cases e
      subst hc
      exact clone_nil z w
    | some x => exact clone_empty x cap z w
  · rcases hr with ⟨h, _⟩ | ⟨b, off, rfl, hc⟩
    · exact absurd h h0
    · exact clone_some b off len cap z w (by omega) hlen hc
end Go.Proofs.Ybulkbkbs
