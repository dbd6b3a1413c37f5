/- The walk of LawS3047AKind. -/
import Derived.Test.YbulkbkbsDoorChecked
import Derived.WalkKit
import Derived.WalkSpells
import Derived.WalkLawsBesides
import Derived.LaidEqlPtr
namespace Go.Proofs.YbulkbkbsDoor
open Go.RowKit
set_option linter.unusedVariables false

theorem lt_of_cell {w : World} {a : Addr} {v : Value} (h : w.cell? a = some v) : a.block < w.heap.size := by
  unfold World.cell? at h
  split at h
  · rename_i e
    exact (Array.getElem?_eq_some_iff.1 e).1
  · cases h
theorem cell_new {w : World} {a : Addr} {v : Value} (o : Obj) (h : w.cell? a = some v) : (w.alloc o).cell? a = some v := by
  rw [World.cell?_alloc_lt w o a (lt_of_cell h)]; exact h

theorem info32 : (Ybad.prog.info? 32).map (·.size) = some 3 := by kernel_rfl
theorem info37 : (Ybad.prog.info? 37).map (·.size) = some 4 := by kernel_rfl
abbrev fsum : Obj := .cells #[.pointer none, .slice none 0 0, .slice none 0 0] 32
abbrev isum : Obj := .cells #[.slice none 0 0, .slice none 0 0, .slice none 0 0, .slice none 0 0] 37

theorem two_blocks (w : World) (o : Obj) : ((w.alloc o).alloc o).heap[w.heap.size]? = some o ∧ ((w.alloc o).alloc o).heap[w.heap.size + 1]? = some o := by
  constructor
  · show ((w.heap.push o).push o)[w.heap.size]? = some o
    simp only [Array.getElem?_push, Array.size_push]
    rw [if_neg (by omega), if_pos trivial]
  · show ((w.heap.push o).push o)[w.heap.size + 1]? = some o
    simp only [Array.getElem?_push, Array.size_push]
    rw [if_pos trivial]

theorem eql26 (w : World) : (binOp .eql 26 (.pointer (some ⟨w.heap.size, 0, none⟩)) (.pointer (some ⟨w.heap.size + 1, 0, none⟩))).run Ybad.prog ((w.alloc fsum).alloc fsum) = .ok (.bool false) ((w.alloc fsum).alloc fsum) := by
  obtain ⟨j, hj, hs⟩ := Option.map_eq_some_iff.1 info32
  exact run_eql_ptr_other _ Ybad.underlying26 hj (by rw [hs]; decide) (fun e => by injection e; omega) (two_blocks w fsum).1 (two_blocks w fsum).2
theorem eql33 (w : World) : (binOp .eql 33 (.pointer (some ⟨w.heap.size, 0, none⟩)) (.pointer (some ⟨w.heap.size + 1, 0, none⟩))).run Ybad.prog ((w.alloc isum).alloc isum) = .ok (.bool false) ((w.alloc isum).alloc isum) := by
  obtain ⟨j, hj, hs⟩ := Option.map_eq_some_iff.1 info37
  exact run_eql_ptr_other _ Ybad.underlying33 hj (by rw [hs]; decide) (fun e => by injection e; omega) (two_blocks w isum).1 (two_blocks w isum).2

theorem assert26 (a : Addr) (w : World) : (Instr.typeAssert (.iface 26 (.pointer (some a))) 24 26 true).run Ybad.prog w = .ok (.tuple #[.pointer (some a), .bool true]) w := by kernel_rfl
theorem assert33 (a : Addr) (w : World) : (Instr.typeAssert (.iface 33 (.pointer (some a))) 24 33 true).run Ybad.prog w = .ok (.tuple #[.pointer (some a), .bool true]) w := by kernel_rfl

theorem newSum_float (n : Nat) (w : World) (hn : n < 6) (hc : w.cell? ⟨0, n * 3 + 1, none⟩ = some (.int .i64 3)) :
    Calls Ybad.prog 4 #[.int .i64 n] w fun e w' => e = .returned (.iface 26 (.pointer (some ⟨w.heap.size, 0, none⟩))) ∧ w' = w.alloc fsum := by
  go_enter Ybad.func4, Ybad.ntmps4
  go_wp2
  go_ret
  exact ⟨rfl, rfl⟩

theorem newSum_int (n : Nat) (k : Int) (w : World) (hn : n < 6) (hk : (k == 3) = false) (hc : w.cell? ⟨0, n * 3 + 1, none⟩ = some (.int .i64 k)) :
    Calls Ybad.prog 4 #[.int .i64 n] w fun e w' => e = .returned (.iface 33 (.pointer (some ⟨w.heap.size, 0, none⟩))) ∧ w' = w.alloc isum := by
  go_enter Ybad.func4, Ybad.ntmps4
  go_wp2
  go_ret
  exact ⟨rfl, rfl⟩

set_option maxRecDepth 20000 in
set_option maxHeartbeats 1000000 in
theorem walk_float (x : Int) (n : Nat) (w : World) (hx0 : 0 ≤ x) (hx : x ≤ 255) (hm : x % 6 = (n : Int)) (hn : n = 4 ∨ n = 5) (hc : w.cell? ⟨0, n * 3 + 1, none⟩ = some (.int .i64 3)) :
    Calls Ybad.prog 3 #[.int .u8 x] w fun e w' => e = .returned (.bool true) ∧ Below w.heap.size w w' := by
  have hn6 : n < 6 := by omega
  have he := eql26 w
  have ha := assert26
  have hs29 := fun w => Lib.run_eql_slice_nil (P := Ybad.prog) w 29 _ none 0 0 0 0 Ybad.underlying29
  have hs30 := fun w => Lib.run_eql_slice_nil (P := Ybad.prog) w 30 _ none 0 0 0 0 Ybad.underlying30
  have hor : ((n : Int) == 4) = true ∨ (((n : Int) == 4) = false ∧ ((n : Int) == 5) = true) := by
    rcases hn with rfl | rfl
    · exact .inl rfl
    · exact .inr ⟨rfl, rfl⟩
  clear hn
  rcases hor with h4 | ⟨h4, h5⟩
  all_goals
    go_enter Ybad.func3, Ybad.ntmps3
    go_wp2_with fail
    refine (newSum_float n w hn6 hc).mono ?_
    rintro e w1 ⟨rfl, rfl⟩
    go_wp2_with fail
    refine (newSum_float n _ hn6 (cell_new _ hc)).mono ?_
    rintro e w2 ⟨rfl, rfl⟩
    go_wp2_with fail
    go_ret
    exact ⟨rfl, ((Below.refl _ _).alloc (Nat.le_refl _) _).alloc (by simp) _⟩

set_option maxRecDepth 20000 in
set_option maxHeartbeats 1000000 in
theorem walk_int (x : Int) (n : Nat) (k : Int) (w : World) (hx0 : 0 ≤ x) (hx : x ≤ 255) (hm : x % 6 = (n : Int)) (hn : n < 4) (hk : (k == 3) = false) (hc : w.cell? ⟨0, n * 3 + 1, none⟩ = some (.int .i64 k)) :
    Calls Ybad.prog 3 #[.int .u8 x] w fun e w' => e = .returned (.bool true) ∧ Below w.heap.size w w' := by
  have hn6 : n < 6 := by omega
  have he := eql33 w
  have ha := assert33
  have hs35 := fun w => Lib.run_eql_slice_nil (P := Ybad.prog) w 35 _ none 0 0 0 0 Ybad.underlying35
  have hs30 := fun w => Lib.run_eql_slice_nil (P := Ybad.prog) w 30 _ none 0 0 0 0 Ybad.underlying30
  have h4 : ((n : Int) == 4) = false := by simp; omega
  have h5 : ((n : Int) == 5) = false := by simp; omega
  go_enter Ybad.func3, Ybad.ntmps3
  go_wp2_with fail
  refine (newSum_int n k w hn6 hk hc).mono ?_
  rintro e w1 ⟨rfl, rfl⟩
  go_wp2_with fail
  refine (newSum_int n k _ hn6 hk (cell_new _ hc)).mono ?_
  rintro e w2 ⟨rfl, rfl⟩
  go_wp2_with fail
  go_ret
  exact ⟨rfl, ((Below.refl _ _).alloc (Nat.le_refl _) _).alloc (by simp) _⟩
end Go.Proofs.YbulkbkbsDoor
