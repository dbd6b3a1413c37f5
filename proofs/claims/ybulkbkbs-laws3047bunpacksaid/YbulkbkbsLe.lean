/- The contract of encoding/binary's littleEndian.Uint64. -/
import Derived.Test.YbulkbkbsPlain
import Derived.Test.YbulkbkbsChecked
import Derived.WalkKit
import Derived.WalkSpells
import Derived.WalkLawsBesides
import Derived.Deep.QuietTactic
import Derived.BigQuiet
import Derived.Laws.BitsAllLaws
namespace Go.Proofs.Ybulkbkbs
open Go.RowKit
set_option linter.unusedVariables false

theorem lt_of_cell {w : World} {a : Addr} {v : Value} (h : w.cell? a = some v) : a.block < w.heap.size := by
  unfold World.cell? at h
  split at h
  · rename_i e
    exact (Array.getElem?_eq_some_iff.1 e).1
  · cases h
theorem cell_new {w : World} {a : Addr} {v : Value} (o : Obj) (h : w.cell? a = some v) : (w.alloc o).cell? a = some v := by
  rw [World.cell?_alloc_lt w o a (lt_of_cell h)]; exact h

theorem or_apart (a c k : Nat) (ha : a < 2 ^ k) : a ||| c * 2 ^ k = a + c * 2 ^ k := by
  have := Nat.shiftLeft_add_eq_or_of_lt ha c
  rw [Nat.shiftLeft_eq] at this
  rw [Nat.or_comm, ← this]; omega
theorem or_join (a c m k : Nat) (hm : m = 2 ^ k) (ha : a < m) (hb : a + c * m < 18446744073709551616) : bits .or .u64 (a : Int) ((c : Int) * (m : Int)) = ((a + c * m : Nat) : Int) := by
  rw [← Int.natCast_mul, u64_or_nat a (c * m) (by omega) (by omega)]
  subst hm
  rw [or_apart a c k ha]
theorem le8_bits (z : Nat → Nat) (hz : ∀ i, z i < 256) : bits BinOp.or IntKind.u64 (bits BinOp.or IntKind.u64 (bits BinOp.or IntKind.u64 (bits BinOp.or IntKind.u64 (bits BinOp.or IntKind.u64 (bits BinOp.or IntKind.u64 (bits BinOp.or IntKind.u64 (↑(z 0)) (↑(z 1) * 256)) (↑(z 2) * 65536)) (↑(z 3) * 16777216)) (↑(z 4) * 4294967296)) (↑(z 5) * 1099511627776)) (↑(z 6) * 281474976710656)) (↑(z 7) * 72057594037927936) = ((le z 0 8 : Nat) : Int) := by
  have h0 := hz 0; have h1 := hz 1; have h2 := hz 2; have h3 := hz 3; have h4 := hz 4; have h5 := hz 5; have h6 := hz 6; have h7 := hz 7
  have e := le8 z 0
  simp only [Nat.zero_add] at e
  rw [e]
  generalize z 0 = z0 at *; generalize z 1 = z1 at *; generalize z 2 = z2 at *; generalize z 3 = z3 at *; generalize z 4 = z4 at *; generalize z 5 = z5 at *; generalize z 6 = z6 at *; generalize z 7 = z7 at *
  have e1 : bits BinOp.or IntKind.u64 (z0 : Int) ((z1 : Int) * 256) = ((z0 + z1 * 256 : Nat) : Int) := or_join z0 z1 256 8 rfl (by omega) (by omega)
  rw [e1]
  have e2 : bits BinOp.or IntKind.u64 ((z0 + z1 * 256 : Nat) : Int) ((z2 : Int) * 65536) = ((z0 + z1 * 256 + z2 * 65536 : Nat) : Int) := or_join _ z2 65536 16 rfl (by omega) (by omega)
  rw [e2]
  have e3 : bits BinOp.or IntKind.u64 ((z0 + z1 * 256 + z2 * 65536 : Nat) : Int) ((z3 : Int) * 16777216) = ((z0 + z1 * 256 + z2 * 65536 + z3 * 16777216 : Nat) : Int) := or_join _ z3 16777216 24 rfl (by omega) (by omega)
  rw [e3]
  have e4 : bits BinOp.or IntKind.u64 ((z0 + z1 * 256 + z2 * 65536 + z3 * 16777216 : Nat) : Int) ((z4 : Int) * 4294967296) = ((z0 + z1 * 256 + z2 * 65536 + z3 * 16777216 + z4 * 4294967296 : Nat) : Int) := or_join _ z4 4294967296 32 rfl (by omega) (by omega)
  rw [e4]
  have e5 : bits BinOp.or IntKind.u64 ((z0 + z1 * 256 + z2 * 65536 + z3 * 16777216 + z4 * 4294967296 : Nat) : Int) ((z5 : Int) * 1099511627776) = ((z0 + z1 * 256 + z2 * 65536 + z3 * 16777216 + z4 * 4294967296 + z5 * 1099511627776 : Nat) : Int) := or_join _ z5 1099511627776 40 rfl (by omega) (by omega)
  rw [e5]
  have e6 : bits BinOp.or IntKind.u64 ((z0 + z1 * 256 + z2 * 65536 + z3 * 16777216 + z4 * 4294967296 + z5 * 1099511627776 : Nat) : Int) ((z6 : Int) * 281474976710656) = ((z0 + z1 * 256 + z2 * 65536 + z3 * 16777216 + z4 * 4294967296 + z5 * 1099511627776 + z6 * 281474976710656 : Nat) : Int) := or_join _ z6 281474976710656 48 rfl (by omega) (by omega)
  rw [e6]
  exact or_join _ z7 72057594037927936 56 rfl (by omega) (by omega)

theorem ret_int {k : IntKind} {a b : Int} (h : a = b) : Ending.returned (.int k a) = .returned (.int k b) := by rw [h]

set_option maxHeartbeats 4000000 in
set_option maxRecDepth 100000 in
theorem uint64_any (g o n c : Nat) (z : Nat → Nat) (w : World) (hn : 8 ≤ n) (hz : ∀ i, z i < 256) (hc : ∀ i, i < 8 → w.cell? ⟨g, o + i, none⟩ = some (.int .u8 (z i))) :
    Calls Yba.prog 11 #[.agg #[], .slice (some ⟨g, o, none⟩) n c] w fun e w' => e = .returned (.int .u64 (le z 0 8 : Nat)) ∧ ∃ q, w' = (w.alloc (.cells #[] 37)).drewN q := by
  have d0 : ∀ x, (w.alloc x).cell? ⟨g, o, none⟩ = some (.int .u8 (z 0)) := fun x => cell_new x (hc 0 (by omega))
  have d1 : ∀ x, (w.alloc x).cell? ⟨g, o + 1, none⟩ = some (.int .u8 (z 1)) := fun x => cell_new x (hc 1 (by omega))
  have d2 : ∀ x, (w.alloc x).cell? ⟨g, o + 2, none⟩ = some (.int .u8 (z 2)) := fun x => cell_new x (hc 2 (by omega))
  have d3 : ∀ x, (w.alloc x).cell? ⟨g, o + 3, none⟩ = some (.int .u8 (z 3)) := fun x => cell_new x (hc 3 (by omega))
  have d4 : ∀ x, (w.alloc x).cell? ⟨g, o + 4, none⟩ = some (.int .u8 (z 4)) := fun x => cell_new x (hc 4 (by omega))
  have d5 : ∀ x, (w.alloc x).cell? ⟨g, o + 5, none⟩ = some (.int .u8 (z 5)) := fun x => cell_new x (hc 5 (by omega))
  have d6 : ∀ x, (w.alloc x).cell? ⟨g, o + 6, none⟩ = some (.int .u8 (z 6)) := fun x => cell_new x (hc 6 (by omega))
  have d7 : ∀ x, (w.alloc x).cell? ⟨g, o + 7, none⟩ = some (.int .u8 (z 7)) := fun x => cell_new x (hc 7 (by omega))
  have h0 := hz 0; have h1 := hz 1; have h2 := hz 2; have h3 := hz 3; have h4 := hz 4; have h5 := hz 5; have h6 := hz 6; have h7 := hz 7
  have q0 : 0 < n := by omega
  have q1 : (1 : Int) < (n : Int) := by omega
  have q2 : (2 : Int) < (n : Int) := by omega
  have q3 : (3 : Int) < (n : Int) := by omega
  have q4 : (4 : Int) < (n : Int) := by omega
  have q5 : (5 : Int) < (n : Int) := by omega
  have q6 : (6 : Int) < (n : Int) := by omega
  have q7 : (7 : Int) < (n : Int) := by omega
  have hval := le8_bits z hz
  have Hval : Hid (_ = ((le z 0 8 : Nat) : Int)) := hval
  clear hc hz hval
  go_enter Yba.func11, Yba.ntmps11
  go_wp2
  go_quiet (fail)
  go_wp2
  go_ret
  exact ⟨ret_int Hval.out, _, rfl⟩
end Go.Proofs.Ybulkbkbs
